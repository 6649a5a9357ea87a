import Derived.Test.Qxb6603893aRc
import Derived.Test.Qxb6603893aNote2
namespace Go.Proofs.Qxb6603893a
open Go.RowKit Go.Maps
set_option linter.unusedVariables false

theorem Md.open {w0 : World} {n : Nat} {t : TypeId} {sz : Nat} {z : Value} {u : Value} {w : World} (h : Md w0 n t sz z true u w) : ∃ B c, u = .slice (some ⟨B, 0, none⟩) n n ∧ w0.heap.size ≤ B ∧ w.heap[B]? = some (.cells c t (0, 0)) ∧ c.size = n * sz := by
  obtain ⟨B, rfl, h2⟩ := h rfl
  rcases h2.2 with ⟨h3, _⟩ | ⟨g, cap, cur, e, h4, h5, _, _, h6, _⟩
  · cases h3
  · cases e
    exact ⟨B, cur, rfl, h4, h5, h6⟩

theorem St.final {a0 : Act} {w1 : World} {e : Int} {mk : Bool} {n : Nat} {ln : Bool} {ll old lim : Int} {a : Act} {w : World} (h : St a0 w1 e mk n ln ll old lim true true true true true true true a w) :
    ∃ B0 B1 B2 B3 B4 V, a = put7 a0 (.slice (some ⟨B0, 0, none⟩) n n) (.slice (some ⟨B1, 0, none⟩) n n) (.slice (some ⟨B2, 0, none⟩) n n) (.slice (some ⟨B3, 0, none⟩) n n) (.slice (some ⟨B4, 0, none⟩) n n) (.pointer (some ⟨V, 0, none⟩)) (.agg (view e mk B0 B1 B2 B3 B4 n ln ll old lim)) ∧
      w.there V 0 11 ∧ ∀ es, RC w1 V (view e mk B0 B1 B2 B3 B4 n ln ll old lim) B0 B1 B2 B3 B4 n 0 es (w.setCells V 0 (view e mk B0 B1 B2 B3 B4 n ln ll old lim).toList) := by
  obtain ⟨u0, u1, u2, u3, u4, u5, u6, rfl, m0, m1, m2, m3, m4, ma, mb, _, hb⟩ := h
  obtain ⟨B0, c0, rfl, p0, q0, s0⟩ := m0.open
  obtain ⟨B1, c1, rfl, p1, q1, s1⟩ := m1.open
  obtain ⟨B2, c2, rfl, p2, q2, s2⟩ := m2.open
  obtain ⟨B3, c3, rfl, p3, q3, s3⟩ := m3.open
  obtain ⟨B4, c4, rfl, p4, q4, s4⟩ := m4.open
  obtain ⟨V, rfl, pV, qV⟩ := ma rfl
  obtain ⟨_, _, _, _, _, e0, e1, e2, e3, e4, rfl⟩ := mb rfl
  cases e0
  cases e1
  cases e2
  cases e3
  cases e4
  have hv := heap_setCells_same V 44 (view e mk B0 B1 B2 B3 B4 n ln ll old lim).toList 0 w c44 qV
  rw [setAll_whole (view e mk B0 B1 B2 B3 B4 n ln ll old lim).toList c44 rfl] at hv
  have ho : ∀ q, q ≠ V → (w.setCells V 0 (view e mk B0 B1 B2 B3 B4 n ln ll old lim).toList).heap[q]? = w.heap[q]? := fun q hq => heap_setCells_other _ _ hq _ _ _
  refine ⟨B0, B1, B2, B3, B4, V, rfl, there_of_heap qV (by decide), fun es => ⟨below_setCells pV _ _ _ hb, by simpa using hv, pV, p0, p1, p2, p3, p4, ?_, ?_, ?_, ?_, ?_⟩⟩
  · exact ⟨c0, (ho _ (heap_ne q0 qV (by decide))).trans q0, by omega, fun t x h => by omega⟩
  · exact ⟨c1, (ho _ (heap_ne q1 qV (by decide))).trans q1, s1, fun t x j h => by omega⟩
  · exact ⟨c2, (ho _ (heap_ne q2 qV (by decide))).trans q2, by omega, fun t x h => by omega⟩
  · exact ⟨c3, (ho _ (heap_ne q3 qV (by decide))).trans q3, by omega, fun t x h => by omega⟩
  · exact ⟨c4, (ho _ (heap_ne q4 qV (by decide))).trans q4, by omega, fun t x h => by omega⟩

theorem view_one (e : Int) (mk : Bool) (B0 B1 B2 B3 B4 n : Nat) (ln : Bool) (ll old lim : Int) : (view e mk B0 B1 B2 B3 B4 n ln ll old lim).all (·.oneCell') = true := by simp [view, Value.oneCell']
theorem size44 : (Try.prog.info? 44).map (·.size) = some 11 := by kernel_rfl

theorem Ent.at17 (x : Ent) (h : Dev x.D) : x.cells.toArray[17]? = some (.int .i64 x.wl) := by
  have := h.1
  simp only [Ent.cells, List.getElem?_toArray, List.getElem?_cons_succ]
  rw [List.getElem?_append_right (by omega), this]
  rfl
theorem Ent.at18 (x : Ent) (h : Dev x.D) : x.cells.toArray[18]? = some (.int .u32 x.ct) := by
  have := h.1
  simp only [Ent.cells, List.getElem?_toArray, List.getElem?_cons_succ]
  rw [List.getElem?_append_right (by omega), this]
  rfl
theorem Ent.at19 (x : Ent) (h : Dev x.D) : x.cells.toArray[19]? = some (.bool x.hd) := by
  have := h.1
  simp only [Ent.cells, List.getElem?_toArray, List.getElem?_cons_succ]
  rw [List.getElem?_append_right (by omega), this]
  rfl

section
variable (e : Int) (mk : Bool) (B0 B1 B2 B3 B4 n : Nat) (ln : Bool) (ll old lim : Int)
theorem view_at2 : (view e mk B0 B1 B2 B3 B4 n ln ll old lim)[2]? = some (.slice (some ⟨B0, 0, none⟩) n n) := rfl
theorem view_at3 : (view e mk B0 B1 B2 B3 B4 n ln ll old lim)[3]? = some (.slice (some ⟨B1, 0, none⟩) n n) := rfl
theorem view_at4 : (view e mk B0 B1 B2 B3 B4 n ln ll old lim)[4]? = some (.slice (some ⟨B2, 0, none⟩) n n) := rfl
theorem view_at5 : (view e mk B0 B1 B2 B3 B4 n ln ll old lim)[5]? = some (.slice (some ⟨B3, 0, none⟩) n n) := rfl
theorem view_at6 : (view e mk B0 B1 B2 B3 B4 n ln ll old lim)[6]? = some (.slice (some ⟨B4, 0, none⟩) n n) := rfl
end
theorem Ent.at0 (x : Ent) : x.cells.toArray[0]? = some (.int .u64 x.e) := rfl

/-- What a view's five rows hold. -/
structure SeenV (S : Nat) (B0 B1 B2 B3 B4 : Nat) (es : List Ent) (w : World) : Prop where
  h0 : S ≤ B0
  h1 : S ≤ B1
  h2 : S ≤ B2
  h3 : S ≤ B3
  h4 : S ≤ B4
  r0 : ∃ c, w.heap[B0]? = some (.cells c 28 (0, 0)) ∧ c.size = es.length ∧ ∀ (t : Nat) (x : Ent), es[t]? = some x → c[t]? = some (.int .u64 x.e)
  r1 : ∃ c, w.heap[B1]? = some (.cells c 34 (0, 0)) ∧ c.size = es.length * 16 ∧ ∀ (t : Nat) (x : Ent) (j : Nat), es[t]? = some x → j < 16 → c[t * 16 + j]? = x.D[j]?
  r2 : ∃ c, w.heap[B2]? = some (.cells c 2 (0, 0)) ∧ c.size = es.length ∧ ∀ (t : Nat) (x : Ent), es[t]? = some x → c[t]? = some (.int .i64 x.wl)
  r3 : ∃ c, w.heap[B3]? = some (.cells c 35 (0, 0)) ∧ c.size = es.length ∧ ∀ (t : Nat) (x : Ent), es[t]? = some x → c[t]? = some (.int .u32 x.ct)
  r4 : ∃ c, w.heap[B4]? = some (.cells c 4 (0, 0)) ∧ c.size = es.length ∧ ∀ (t : Nat) (x : Ent), es[t]? = some x → c[t]? = some (.bool x.hd)

theorem lt_idx {es : List Ent} {t : Nat} {x : Ent} (h : es[t]? = some x) : t < es.length := (List.getElem?_eq_some_iff.1 h).1

theorem RC.seen {w1 : World} {V : Nat} {vw : Array Value} {B0 B1 B2 B3 B4 : Nat} {es : List Ent} {wr w2 : World} (R : RC w1 V vw B0 B1 B2 B3 B4 es.length es.length es wr) {S : Nat} (hS : S ≤ w1.heap.size) {r : Nat} (hr : r < w1.heap.size) (hh : ∀ q, q ≠ r → w2.heap[q]? = wr.heap[q]?) : SeenV S B0 B1 B2 B3 B4 es w2 := by
  have g0 := R.h0
  have g1 := R.h1
  have g2 := R.h2
  have g3 := R.h3
  have g4 := R.h4
  refine ⟨by omega, by omega, by omega, by omega, by omega, ?_, ?_, ?_, ?_, ?_⟩
  · obtain ⟨c, q, s, f⟩ := R.r0
    exact ⟨c, (hh _ (by omega)).trans q, s, fun t x hx => f t x (lt_idx hx) hx⟩
  · obtain ⟨c, q, s, f⟩ := R.r1
    exact ⟨c, (hh _ (by omega)).trans q, s, fun t x j hx => f t x j (lt_idx hx) hx⟩
  · obtain ⟨c, q, s, f⟩ := R.r2
    exact ⟨c, (hh _ (by omega)).trans q, s, fun t x hx => f t x (lt_idx hx) hx⟩
  · obtain ⟨c, q, s, f⟩ := R.r3
    exact ⟨c, (hh _ (by omega)).trans q, s, fun t x hx => f t x (lt_idx hx) hx⟩
  · obtain ⟨c, q, s, f⟩ := R.r4
    exact ⟨c, (hh _ (by omega)).trans q, s, fun t x hx => f t x (lt_idx hx) hx⟩

set_option maxRecDepth 100000 in
set_option maxHeartbeats 2000000 in
theorem read11 (h : Nat) (e : Int) (mk : Bool) (ao : Option Addr) (es : List Ent) (B cap : Nat) (mo : Option Nat) (old lim ll : Int) (w : World)
    (hh : w.heap[h]? = some (.cells #[.int .u64 e, .bool mk, .slice ao es.length cap, .map mo, .int .u64 old, .int .i64 lim] 71 (0, 0))) (hn : es.length ≤ 2000000) (hrow : w.ownsRow B 73 20 (.slice ao es.length cap) es.length (flat es)) (hg : Goods es)
    (hlen : ∀ w' : World, (∀ k, k < w.heap.size → w'.heap[k]? = w.heap[k]?) → (Builtin.len_ #[69] 3 #[.map mo]).run Try.prog w' = .ok (.int .i64 ll) w') :
    Calls Try.prog 11 #[.pointer (some ⟨h, 0, none⟩)] w fun ex w' => ∃ B0 B1 B2 B3 B4, ex = .returned (.agg (view e mk B0 B1 B2 B3 B4 es.length mo.isNone ll old lim)) ∧ SeenV w.heap.size B0 B1 B2 B3 B4 es w' ∧ Below w.heap.size w w' := by
  have hlt : h < w.heap.size := lt_of_heap hh
  have hnil := nilmap
  have hc2 := hcell hh 2 rfl
  simp only [List.getElem_toArray, List.getElem_cons_zero, List.getElem_cons_succ] at hc2
  have HN := hide hn
  have HR := hide hrow
  have HG := hide hg
  clear hrow hg
  go_enter Try.func11, Try.ntmps11
  go_wp2_with fail
  have HB1 : Hid (Below w.heap.size w (w.alloc (.cells c44 44))) := (Below.refl _ _).alloc (Nat.le_refl _) _
  have HR1 : Hid ((w.alloc (.cells c44 44)).heap[w.heap.size]? = some (.cells c44 44 (0, 0))) := heap_alloc_new w _
  change Code.wp _ _ _ _ (w.alloc (.cells c44 44))
  generalize w.alloc (.cells c44 44) = w1 at HB1 HR1 ⊢
  clear hc2
  have h1 : w1.heap[h]? = _ := (HB1.out.block h hlt).trans hh
  have hlt1 : h < w1.heap.size := lt_of_heap h1
  have hx : ∀ (x : KeepAll w1), x.1.heap[h]? = _ := fun x => (x.2.block h hlt1).trans h1
  have hx0 : ∀ x : KeepAll w1, x.1.cell? ⟨h, 0, none⟩ = some (.int .u64 e) := fun x => hcell (hx x) 0 rfl
  have hx1 : ∀ x : KeepAll w1, x.1.cell? ⟨h, 1, none⟩ = some (.bool mk) := fun x => hcell (hx x) 1 rfl
  have hx3 : ∀ x : KeepAll w1, x.1.cell? ⟨h, 3, none⟩ = some (.map mo) := fun x => hcell (hx x) 3 rfl
  have hx4 : ∀ x : KeepAll w1, x.1.cell? ⟨h, 4, none⟩ = some (.int .u64 old) := fun x => hcell (hx x) 4 rfl
  have hx5 : ∀ x : KeepAll w1, x.1.cell? ⟨h, 5, none⟩ = some (.int .i64 lim) := fun x => hcell (hx x) 5 rfl
  have hxl : ∀ x : KeepAll w1, (Builtin.len_ #[69] 3 #[.map mo]).run Try.prog x.1 = .ok (.int .i64 ll) x.1 := fun x => hlen x.1 fun k hk => (x.2.block k (Nat.lt_of_lt_of_le hk HB1.out.size)).trans (HB1.out.block k hk)
  clear hx hlen
  refine wp_region_mix (fun w' => ∃ x : KeepAll w1, w' = x.1) 38 (by kernel_rfl) (by kernel_rfl) rfl (fun hR => ?_)
  refine wpMix_step hR 0 rfl (by kernel_rfl) rfl (fun K hK => ?_)
  go_big_quiet_op
  refine hK _ ?_
  clear hK K
  refine wpMix_step hR 1 rfl (by kernel_rfl) rfl (fun K hK => ?_)
  go_big_quiet_op
  refine hK _ ?_
  clear hK K
  refine wpMix_step hR 2 rfl (by kernel_rfl) rfl (fun K hK => ?_)
  go_big_quiet_op
  refine hK _ ?_
  clear hK K
  refine wpMix_step hR 3 rfl (by kernel_rfl) rfl (fun K hK => ?_)
  go_big_quiet_op
  refine hK _ ?_
  clear hK K
  refine wpMix_step hR 4 rfl (by kernel_rfl) rfl (fun K hK => ?_)
  go_big_quiet_op
  refine hK _ ?_
  clear hK K
  refine wpMix_step hR 5 rfl (by kernel_rfl) rfl (fun K hK => ?_)
  go_big_quiet_op
  refine hK _ ?_
  clear hK K
  refine wpMix_step hR 6 rfl (by kernel_rfl) rfl (fun K hK => ?_)
  go_big_quiet_op
  refine hK _ ?_
  clear hK K
  refine wpMix_step hR 7 rfl (by kernel_rfl) rfl (fun K hK => ?_)
  go_big_quiet_op
  refine hK _ ?_
  clear hK K
  refine wpMix_step hR 8 rfl (by kernel_rfl) rfl (fun K hK => ?_)
  go_big_quiet_op
  refine hK _ ?_
  clear hK K
  refine wpMix_step hR 10 rfl (by kernel_rfl) rfl (fun K hK => ?_)
  go_big_quiet_op
  refine hK _ ?_
  clear hK K
  refine wpMix_step hR 12 rfl (by kernel_rfl) rfl (fun K hK => ?_)
  go_big_quiet_op
  refine hK _ ?_
  clear hK K
  refine wpMix_step hR 14 rfl (by kernel_rfl) rfl (fun K hK => ?_)
  go_big_quiet_op
  refine hK _ ?_
  clear hK K
  refine wpMix_step hR 16 rfl (by kernel_rfl) rfl (fun K hK => ?_)
  go_big_quiet_op
  refine hK _ ?_
  clear hK K
  refine wpMix_step hR 18 rfl (by kernel_rfl) rfl (fun K hK => ?_)
  go_big_quiet_op
  refine hK _ ?_
  clear hK K
  refine wpMix_step hR 19 rfl (by kernel_rfl) rfl (fun K hK => ?_)
  go_big_quiet_op
  refine hK _ ?_
  clear hK K
  refine wpMix_step hR 20 rfl (by kernel_rfl) rfl (fun K hK => ?_)
  go_big_quiet_op
  refine hK _ ?_
  clear hK K
  refine wpMix_step hR 21 rfl (by kernel_rfl) rfl (fun K hK => ?_)
  go_big_quiet_op
  refine hK _ ?_
  clear hK K
  refine wpMix_step hR 22 rfl (by kernel_rfl) rfl (fun K hK => ?_)
  go_big_quiet_op
  refine hK _ ?_
  clear hK K
  refine wpMix_step hR 23 rfl (by kernel_rfl) rfl (fun K hK => ?_)
  go_big_quiet_op
  refine hK _ ?_
  clear hK K
  refine wpMix_step hR 24 rfl (by kernel_rfl) rfl (fun K hK => ?_)
  go_big_quiet_op
  refine hK _ ?_
  clear hK K
  refine wpMix_step hR 25 rfl (by kernel_rfl) rfl (fun K hK => ?_)
  go_big_quiet_op
  refine hK _ ?_
  clear hK K
  refine wpMix_step hR 26 rfl (by kernel_rfl) rfl (fun K hK => ?_)
  go_big_quiet_op
  refine hK _ ?_
  clear hK K
  refine wpMix_step hR 27 rfl (by kernel_rfl) rfl (fun K hK => quiet_len (.tmp 38) #[69] rfl (.int .i64 ll) (by rintro _ ⟨x, rfl⟩; exact hxl x) (hK _ ?_))
  simp only [Act.put, List.setIfInBounds_toArray, List.set_cons_succ, List.set_cons_zero]
  clear hK K
  refine wpMix_step hR 28 rfl (by kernel_rfl) rfl (fun K hK => ?_)
  go_big_quiet_op
  refine hK _ ?_
  clear hK K
  refine wpMix_step hR 29 rfl (by kernel_rfl) rfl (fun K hK => ?_)
  go_big_quiet_op
  refine hK _ ?_
  clear hK K
  refine wpMix_step hR 30 rfl (by kernel_rfl) rfl (fun K hK => ?_)
  go_big_quiet_op
  refine hK _ ?_
  clear hK K
  refine wpMix_step hR 31 rfl (by kernel_rfl) rfl (fun K hK => ?_)
  go_big_quiet_op
  refine hK _ ?_
  clear hK K
  refine wpMix_step hR 32 rfl (by kernel_rfl) rfl (fun K hK => ?_)
  go_big_quiet_op
  refine hK _ ?_
  clear hK K
  refine wpMix_step hR 33 rfl (by kernel_rfl) rfl (fun K hK => ?_)
  go_big_quiet_op
  refine hK _ ?_
  clear hK K
  refine wpMix_step hR 34 rfl (by kernel_rfl) rfl (fun K hK => ?_)
  go_big_quiet_op
  refine hK _ ?_
  clear hK K
  refine wpMix_step hR 35 rfl (by kernel_rfl) rfl (fun K hK => ?_)
  go_big_quiet_op
  refine hK _ ?_
  clear hK K
  refine wpMix_cast (l2 := lst false false false false false false false) (by kernel_rfl) ?_
  refine mints0 (by kernel_rfl) (by simp) HN.out ⟨_, rfl, rfl, rfl, rfl⟩ ⟨_, rfl, rfl, rfl, rfl⟩ ⟨_, rfl, rfl, rfl, rfl⟩ ⟨_, rfl, rfl, rfl, rfl⟩ ⟨_, rfl, rfl, rfl, rfl⟩ ⟨_, rfl, rfl, rfl, rfl⟩ ⟨_, rfl, rfl, rfl, rfl⟩ rfl rfl rfl rfl rfl rfl rfl rfl rfl rfl rfl rfl rfl rfl rfl rfl rfl rfl (Below.drewN (Below.refl _ _) 1) ?_
  intro a2 w2 hst
  obtain ⟨B0, B1, B2, B3, B4, V, rfl, hth, hrc⟩ := hst.final
  refine ⟨by kernel_rfl, ?_⟩
  have HC := hide hrc
  have HT := hide hth
  clear hrc hst hR hx0 hx1 hx3 hx4 hx5 hxl hth
  simp only [put7, Act.put, List.setIfInBounds_toArray, List.set_cons_succ, List.set_cons_zero]
  refine wpList_store_all rfl 44 (.tmp 4) (.tmp 48) rfl V 0 (view e mk B0 B1 B2 B3 B4 es.length mo.isNone ll old lim) rfl rfl HT.out size44 (view_one _ _ _ _ _ _ _ _ _ _ _ _) ?_
  intro w3 hw3
  simp only [Act.put]
  rw [← hw3] at HC
  clear hw3 HT
  go_wp2_with fail
  go_loopw [5] (fun q wr => ∃ k : Nat, q = .int .i64 k ∧ k ≤ es.length ∧ Hid (RC w1 V (view e mk B0 B1 B2 B3 B4 es.length mo.isNone ll old lim) B0 B1 B2 B3 B4 es.length k es wr)) (fun q _ => es.length - (intOf q).toNat)
  case atStart => exact ⟨0, rfl, Nat.zero_le _, HC.out es⟩
  case round =>
    obtain ⟨k, rfl, hk, HK⟩ := hrel
    by_cases hkn : k < es.length
    · obtain ⟨x, hxk⟩ : ∃ x, es[k]? = some x := ⟨_, List.getElem?_eq_getElem hkn⟩
      have hDx : Dev x.D := HG.out x (List.mem_of_getElem? hxk)
      obtain ⟨g, rfl⟩ : ∃ g, ao = some ⟨g, 0, none⟩ := by
        rcases HR.out.2 with ⟨_, h0⟩ | ⟨g, _, _, e0, _⟩
        · omega
        · cases e0
          exact ⟨g, rfl⟩
      have h2 : wr.heap[h]? = _ := (HK.out.below.block h hlt1).trans h1
      have hc2 := hcell h2 2 rfl
      simp only [List.getElem_toArray, List.getElem_cons_zero, List.getElem_cons_succ] at hc2
      have hrw : wr.ownsRow B 73 20 (.slice (some ⟨g, 0, none⟩) es.length cap) es.length (flat es) := ownsRow_of_block HR.out fun q hq => by
        have := (HR.out.lt q hq).2
        exact (HK.out.below.block q (Nat.lt_of_lt_of_le this HB1.out.size)).trans (HB1.out.block q this)
      have HRG : Hid (wr.rangeAt g (k * 20) x.cells) := fun j v hv => by
        have hj : j < 20 := by rw [← Ent.length hDx]; exact (List.getElem?_eq_some_iff.1 hv).1
        have := hrw.cells (g := g) rfl (k * 20 + j) v (by rw [flat_at HG.out hxk hj]; exact hv)
        rwa [Addr.add_lit, Nat.zero_add] at this
      obtain ⟨hcap1, hcap2⟩ : es.length ≤ cap ∧ cap ≤ maxLen := by
        rcases hrw.2 with ⟨hb, _⟩ | ⟨g', cap', cur', e1, _, _, h1, h2, _⟩
        · cases hb
        · cases e1
          exact ⟨h1, h2⟩
      unfold maxLen at hcap2
      have hnn := HN.out
      have HKN := hide hkn
      have A := HK.out.apart
      have a1 := A.v0
      have a2 := A.v2
      have a3 := A.v3
      have a4 := A.v4
      have a5 := A.b0
      have a6 := A.b2
      have a7 := A.b3
      have a8 := A.b4
      have a9 := A.p23
      have a10 := A.p24
      have a11 := A.p34
      have HA := hide A
      have HX := hide hxk
      have HD := hide hDx
      clear h2 hrw hxk hDx A
      go_wp2_with (first
        | (show wpList _ _ _ (Oper.mk _ (Op.load 73 (.tmp 59)) _ _ _ _ :: _) _ _; refine wpList_load_mid rfl 73 (.tmp 59) rfl g (k * 20) rfl x.cells _ HRG.out Try.underlying73 rfl (by rw [Ent.length HD.out]; exact size73) ?_)
        | (show wpList _ _ _ (Oper.mk _ (Op.store 73 (.tmp 6) (.tmp 60)) _ _ _ _ :: _) _ _; refine wpList_store_all rfl 73 (.tmp 6) (.tmp 60) rfl wr.heap.size 0 x.cells.toArray rfl rfl (there_of_heap (heap_alloc_new wr _) (by simp [Ent.length HD.out])) (by simp only [List.size_toArray, Ent.length HD.out]; exact size73) (all_oneCell_toArray (Ent.oneCell HD.out)) ?_
           intro w5 hw5
           obtain ⟨R5, hb5⟩ := HK.out.box HD.out (z := _) rfl hw5
           have HR5 := hide R5
           have cV2 : w5.cell? ⟨V, 2, none⟩ = some (.slice (some ⟨B0, 0, none⟩) es.length es.length) := hcell R5.vw 2 (view_at2 _ _ _ _ _ _ _ _ _ _ _ _)
           have cV3 : w5.cell? ⟨V, 3, none⟩ = some (.slice (some ⟨B1, 0, none⟩) es.length es.length) := hcell R5.vw 3 (view_at3 _ _ _ _ _ _ _ _ _ _ _ _)
           have cb0 : w5.cell? ⟨wr.heap.size, 0, none⟩ = some (.int .u64 x.e) := hcell hb5 0 x.at0
           have l5 : ∃ y, w5.cell? ⟨B0, k, none⟩ = some y := by
             obtain ⟨c, q, s, _⟩ := R5.r0
             exact ⟨_, (cell_of_row w5 B0 k c 28 (0, 0) q).trans (Array.getElem?_eq_getElem (by have := HKN.out; omega))⟩
           obtain ⟨y0, cB0⟩ := l5
           have fB0 : w5.frozen? ⟨B0, k, none⟩ = false := by
             obtain ⟨c, q, s, _⟩ := R5.r0
             simp [World.frozen?, q]
           have H65 : Hid ((w5.setCell ⟨B0, k, none⟩ (.int .u64 x.e)).rangeAt wr.heap.size 1 x.D) := fun j v hv => by
             have hj : j < 16 := by rw [← HD.out.1]; exact (List.getElem?_eq_some_iff.1 hv).1
             rw [cell_of_row _ wr.heap.size (1 + j) x.cells.toArray 73 (0, 0) ((heap_setCell_other _ _ _ _ HA.out.b0.symm).trans hb5)]
             simp only [List.getElem?_toArray, Ent.cells]
             rw [Nat.add_comm, List.getElem?_cons_succ, List.getElem?_append_left (by have := HD.out.1; omega)]
             exact hv
           have T34 : Hid ((w5.setCell ⟨B0, k, none⟩ (.int .u64 x.e)).there B1 (k * 16) x.D.toArray.size) := by
             obtain ⟨c, q, s, _⟩ := R5.r1
             exact there_of_heap ((heap_setCell_other _ _ _ _ HA.out.p01.symm).trans q) (by have := HD.out.1; have := HKN.out; simp; omega)
           have HB5 := hide hb5
           clear R5 hb5 hw5 hc2)
        | (show wpList _ _ _ (Oper.mk _ (Op.load 65 (.tmp 70)) _ _ _ _ :: _) _ _; refine wpList_load_mid rfl 65 (.tmp 70) rfl wr.heap.size 1 rfl x.D _ (by assumption : Hid (World.rangeAt _ _ 1 _)).out Try.underlying65 rfl (by rw [HD.out.1]; exact size65) ?_)
        | (show wpList _ _ _ (Oper.mk _ (Op.store 34 (.tmp 72) (.tmp 71)) _ _ _ _ :: _) _ _; refine wpList_store_all rfl 34 (.tmp 72) (.tmp 71) rfl B1 (k * 16) x.D.toArray rfl rfl (by assumption : Hid (World.there _ _ _ _)).out (by simp only [List.size_toArray, HD.out.1]; exact size34) (all_oneCell_toArray HD.out.oneCell) ?_
           intro w6 hw6
           have H6 := HR5.out.step HX.out HD.out HKN.out wr.heap.size HA.out hw6
           have HRN := hide H6
           have o6 : ∀ q, q ≠ B0 → q ≠ B1 → w6.heap[q]? = w5.heap[q]? := fun q q0 q1 => by rw [hw6, heap_setCells_other _ _ q1, heap_setCell_other _ _ _ _ q0]
           have hv6 := (o6 V HA.out.v0.symm HA.out.v1.symm).trans HR5.out.vw
           have hb6 := (o6 wr.heap.size HA.out.b0.symm HA.out.b1.symm).trans HB5.out
           have cV4 : w6.cell? ⟨V, 4, none⟩ = some (.slice (some ⟨B2, 0, none⟩) es.length es.length) := hcell hv6 4 (view_at4 _ _ _ _ _ _ _ _ _ _ _ _)
           have cV5 : w6.cell? ⟨V, 5, none⟩ = some (.slice (some ⟨B3, 0, none⟩) es.length es.length) := hcell hv6 5 (view_at5 _ _ _ _ _ _ _ _ _ _ _ _)
           have cV6 : w6.cell? ⟨V, 6, none⟩ = some (.slice (some ⟨B4, 0, none⟩) es.length es.length) := hcell hv6 6 (view_at6 _ _ _ _ _ _ _ _ _ _ _ _)
           have e17 : x.cells.toArray[17]? = some (.int .i64 x.wl) := x.at17 HD.out
           have e18 : x.cells.toArray[18]? = some (.int .u32 x.ct) := x.at18 HD.out
           have e19 : x.cells.toArray[19]? = some (.bool x.hd) := x.at19 HD.out
           have cb17 := hcell hb6 17 e17
           have cb18 := hcell hb6 18 e18
           have cb19 := hcell hb6 19 e19
           have l2 : ∃ y, w6.cell? ⟨B2, k, none⟩ = some y ∧ w6.frozen? ⟨B2, k, none⟩ = false := by
             obtain ⟨c, q, s, _⟩ := HR5.out.r2
             have q' := (o6 B2 HA.out.p02.symm HA.out.p12.symm).trans q
             exact ⟨_, (cell_of_row w6 B2 k c 2 (0, 0) q').trans (Array.getElem?_eq_getElem (by have := HKN.out; omega)), by simp [World.frozen?, q']⟩
           have l3 : ∃ y, w6.cell? ⟨B3, k, none⟩ = some y ∧ w6.frozen? ⟨B3, k, none⟩ = false := by
             obtain ⟨c, q, s, _⟩ := HR5.out.r3
             have q' := (o6 B3 HA.out.p03.symm HA.out.p13.symm).trans q
             exact ⟨_, (cell_of_row w6 B3 k c 35 (0, 0) q').trans (Array.getElem?_eq_getElem (by have := HKN.out; omega)), by simp [World.frozen?, q']⟩
           have l4 : ∃ y, w6.cell? ⟨B4, k, none⟩ = some y ∧ w6.frozen? ⟨B4, k, none⟩ = false := by
             obtain ⟨c, q, s, _⟩ := HR5.out.r4
             have q' := (o6 B4 HA.out.p04.symm HA.out.p14.symm).trans q
             exact ⟨_, (cell_of_row w6 B4 k c 4 (0, 0) q').trans (Array.getElem?_eq_getElem (by have := HKN.out; omega)), by simp [World.frozen?, q']⟩
           obtain ⟨y2, cB2, fB2⟩ := l2
           obtain ⟨y3, cB3, fB3⟩ := l3
           obtain ⟨y4, cB4, fB4⟩ := l4
           clear hw6 H6 o6 hv6 hb6 e17 e18 e19 cV2 cV3 cb0 cB0 fB0))
      go_roundw
      case rel => first | exact ⟨k + 1, by go_num, by have := HKN.out; omega, HRN⟩ | (refine ⟨trivial, ?_⟩; (repeat apply Exists.intro); exact ⟨⟨k + 1, by go_num, by have := HKN.out; omega, HRN⟩, rfl⟩)
      case measure => have := HKN.out; simp [intOf]; omega
    · obtain rfl : k = es.length := by omega
      have HRR : Hid (wr.heap[w.heap.size]? = some (.cells c44 44 (0, 0))) := (HK.out.below.block _ (lt_of_heap HR1.out)).trans HR1.out
      have HTT : Hid (wr.there w.heap.size 0 (view e mk B0 B1 B2 B3 B4 es.length mo.isNone ll old lim).size) := there_of_heap HRR.out (by simp [view, c44])
      have HVW : Hid (wr.rangeAt V 0 (view e mk B0 B1 B2 B3 B4 es.length mo.isNone ll old lim).toList) := rangeAt_block (by simpa using HK.out.vw)
      go_wp2_with (first
        | (show wpList _ _ _ (Oper.mk _ (Op.load 44 (.tmp 4)) _ _ _ _ :: _) _ _; refine wpList_load_mid rfl 44 (.tmp 4) rfl V 0 rfl (view e mk B0 B1 B2 B3 B4 es.length mo.isNone ll old lim).toList _ HVW.out Try.underlying44 rfl size44 ?_)
        | (show wpList _ _ _ (Oper.mk _ (Op.store 44 (.tmp 2) (.tmp 93)) _ _ _ _ :: _) _ _; refine wpList_store_all rfl 44 (.tmp 2) (.tmp 93) rfl w.heap.size 0 (view e mk B0 B1 B2 B3 B4 es.length mo.isNone ll old lim) rfl rfl HTT.out size44 (view_one _ _ _ _ _ _ _ _ _ _ _ _) ?_; intro w9 hw9))
      have hr9 : w9.heap[w.heap.size]? = some (.cells (view e mk B0 B1 B2 B3 B4 es.length mo.isNone ll old lim) 44 (0, 0)) := by
        rw [hw9, heap_setCells_same _ 44 _ _ _ c44 HRR.out, setAll_whole (view e mk B0 B1 B2 B3 B4 es.length mo.isNone ll old lim).toList c44 rfl]
      try simp only [Exit.inBlock, Exit.then]
      refine bodyPost_ret (results_cell_row rfl _ _ w.heap.size 44 _ (0, 0) _ rfl hr9 Try.underlying44 rfl size44) rfl ?_
      refine ⟨B0, B1, B2, B3, B4, rfl, HK.out.seen HB1.out.size (r := w.heap.size) (lt_of_heap HR1.out) (fun q hq => by rw [hw9]; exact heap_setCells_other _ _ hq _ _ _), ?_⟩
      rw [hw9]
      exact below_setCells (Nat.le_refl _) _ _ _ (HB1.out.trans (HK.out.below.mono HB1.out.size))
end Go.Proofs.Qxb6603893a
