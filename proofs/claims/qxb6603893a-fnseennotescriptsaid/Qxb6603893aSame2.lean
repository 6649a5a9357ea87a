import Derived.Test.Qxb6603893aSame
namespace Go.Proofs.Qxb6603893a
open Go.RowKit Go.Maps
set_option linter.unusedVariables false

theorem SeenV.of_blocks {S B0 B1 B2 B3 B4 : Nat} {es : List Ent} {w w' : World} (h : SeenV S B0 B1 B2 B3 B4 es w) (hb : ∀ k, k < w.heap.size → S ≤ k → w'.heap[k]? = w.heap[k]?) : SeenV S B0 B1 B2 B3 B4 es w' := by
  refine ⟨h.h0, h.h1, h.h2, h.h3, h.h4, ?_, ?_, ?_, ?_, ?_⟩
  · obtain ⟨c, q, r⟩ := h.r0
    exact ⟨c, (hb _ (lt_of_heap q) h.h0).trans q, r⟩
  · obtain ⟨c, q, r⟩ := h.r1
    exact ⟨c, (hb _ (lt_of_heap q) h.h1).trans q, r⟩
  · obtain ⟨c, q, r⟩ := h.r2
    exact ⟨c, (hb _ (lt_of_heap q) h.h2).trans q, r⟩
  · obtain ⟨c, q, r⟩ := h.r3
    exact ⟨c, (hb _ (lt_of_heap q) h.h3).trans q, r⟩
  · obtain ⟨c, q, r⟩ := h.r4
    exact ⟨c, (hb _ (lt_of_heap q) h.h4).trans q, r⟩
/-- One change's cells in a view. -/
theorem SeenV.at {S B0 B1 B2 B3 B4 : Nat} {es : List Ent} {w : World} (h : SeenV S B0 B1 B2 B3 B4 es w) {k : Nat} {x : Ent} (hx : es[k]? = some x) (hD : Dev x.D) :
    w.cell? ⟨B0, k, none⟩ = some (.int .u64 x.e) ∧ w.rangeAt B1 (k * 16) x.D ∧ w.cell? ⟨B2, k, none⟩ = some (.int .i64 x.wl) ∧ w.cell? ⟨B3, k, none⟩ = some (.int .u32 x.ct) ∧ w.cell? ⟨B4, k, none⟩ = some (.bool x.hd) := by
  obtain ⟨c0, q0, _, f0⟩ := h.r0
  obtain ⟨c1, q1, _, f1⟩ := h.r1
  obtain ⟨c2, q2, _, f2⟩ := h.r2
  obtain ⟨c3, q3, _, f3⟩ := h.r3
  obtain ⟨c4, q4, _, f4⟩ := h.r4
  refine ⟨(cell_of_row w B0 k c0 28 (0, 0) q0).trans (f0 k x hx), fun j v hv => ?_, (cell_of_row w B2 k c2 2 (0, 0) q2).trans (f2 k x hx), (cell_of_row w B3 k c3 35 (0, 0) q3).trans (f3 k x hx), (cell_of_row w B4 k c4 4 (0, 0) q4).trans (f4 k x hx)⟩
  rw [cell_of_row w B1 (k * 16 + j) c1 34 (0, 0) q1, f1 k x j hx (by rw [← hD.1]; exact (List.getElem?_eq_some_iff.1 hv).1)]
  exact hv

structure S13 (w0 : World) (b2 b3 : Nat) (v2 v3 : Array Value) (S B0 B1 B2 B3 B4 C0 C1 C2 C3 C4 : Nat) (es : List Ent) (w : World) : Prop where
  below : Below w0.heap.size w0 w
  v2 : w.heap[b2]? = some (.cells v2 44 (0, 0))
  v3 : w.heap[b3]? = some (.cells v3 44 (0, 0))
  a : SeenV S B0 B1 B2 B3 B4 es w
  b : SeenV S C0 C1 C2 C3 C4 es w
theorem S13.next {w0 : World} {b2 b3 : Nat} {v2 v3 : Array Value} {S B0 B1 B2 B3 B4 C0 C1 C2 C3 C4 : Nat} {es : List Ent} {w w' : World} (h : S13 w0 b2 b3 v2 v3 S B0 B1 B2 B3 B4 C0 C1 C2 C3 C4 es w) (hb : Below w.heap.size w w') :
    S13 w0 b2 b3 v2 v3 S B0 B1 B2 B3 B4 C0 C1 C2 C3 C4 es w' :=
  ⟨h.below.trans (hb.mono h.below.size), (hb.block _ (lt_of_heap h.v2)).trans h.v2, (hb.block _ (lt_of_heap h.v3)).trans h.v3, h.a.of_blocks fun k hk _ => hb.block k hk, h.b.of_blocks fun k hk _ => hb.block k hk⟩

set_option maxRecDepth 100000 in
set_option maxHeartbeats 2000000 in
theorem same13 (e : Int) (mk : Bool) (S B0 B1 B2 B3 B4 C0 C1 C2 C3 C4 : Nat) (es : List Ent) (ln : Bool) (ll old lim : Int) (w : World) (hn : es.length ≤ 2000000) (hg : Goods es)
    (ha : SeenV S B0 B1 B2 B3 B4 es w) (hb : SeenV S C0 C1 C2 C3 C4 es w) :
    Calls Try.prog 13 #[.agg (view e mk B0 B1 B2 B3 B4 es.length ln ll old lim), .agg (view e mk C0 C1 C2 C3 C4 es.length ln ll old lim)] w fun ex w' => ex = .returned (.bool true) ∧ Below w.heap.size w w' := by
  have HS : Hid (S13 w w.heap.size (w.heap.size + 1) (view e mk B0 B1 B2 B3 B4 es.length ln ll old lim) (view e mk C0 C1 C2 C3 C4 es.length ln ll old lim) S B0 B1 B2 B3 B4 C0 C1 C2 C3 C4 es ((w.alloc (.cells (view e mk B0 B1 B2 B3 B4 es.length ln ll old lim) 44)).alloc (.cells (view e mk C0 C1 C2 C3 C4 es.length ln ll old lim) 44))) := by
    have hbl : ∀ k, k < w.heap.size → ((w.alloc (.cells (view e mk B0 B1 B2 B3 B4 es.length ln ll old lim) 44)).alloc (.cells (view e mk C0 C1 C2 C3 C4 es.length ln ll old lim) 44)).heap[k]? = w.heap[k]? := fun k hk => by
      rw [Below.heap_alloc _ _ _ (by simp; omega), Below.heap_alloc _ _ _ hk]
    refine ⟨((Below.refl _ _).alloc (Nat.le_refl _) _).alloc (by simp) _, ?_, ?_, ha.of_blocks fun k hk _ => hbl k hk, hb.of_blocks fun k hk _ => hbl k hk⟩
    · rw [Below.heap_alloc _ _ _ (by simp)]
      exact heap_alloc_new w _
    · have := heap_alloc_new (w.alloc (.cells (view e mk B0 B1 B2 B3 B4 es.length ln ll old lim) 44)) (.cells (view e mk C0 C1 C2 C3 C4 es.length ln ll old lim) 44)
      simpa using this
  have HG := hide hg
  clear ha hb hg
  have hl1 := fun w => lens20 e mk B0 B1 B2 B3 B4 es.length ln ll old lim w hn
  have hl2 := fun w => lens20 e mk C0 C1 C2 C3 C4 es.length ln ll old lim w hn
  unfold view at HS hl1 hl2 ⊢
  go_enter Try.func13, Try.ntmps13
  go_wp2_with fail
  refine (hl1 _).mono ?_
  rintro e1 w1 ⟨rfl, hb1⟩
  have HS1 := hide (HS.out.next hb1)
  clear hb1 HS hl1
  have d0 : w1.cell? ⟨w.heap.size + 1, 0, none⟩ = some (.int .u64 e) := hcell HS1.out.v3 0 rfl
  have d1 : w1.cell? ⟨w.heap.size + 1, 1, none⟩ = some (.bool mk) := hcell HS1.out.v3 1 rfl
  have d2 : w1.cell? ⟨w.heap.size + 1, 2, none⟩ = some (.slice (some ⟨C0, 0, none⟩) es.length es.length) := hcell HS1.out.v3 2 rfl
  have d3 : w1.cell? ⟨w.heap.size + 1, 3, none⟩ = some (.slice (some ⟨C1, 0, none⟩) es.length es.length) := hcell HS1.out.v3 3 rfl
  have d4 : w1.cell? ⟨w.heap.size + 1, 4, none⟩ = some (.slice (some ⟨C2, 0, none⟩) es.length es.length) := hcell HS1.out.v3 4 rfl
  have d5 : w1.cell? ⟨w.heap.size + 1, 5, none⟩ = some (.slice (some ⟨C3, 0, none⟩) es.length es.length) := hcell HS1.out.v3 5 rfl
  have d6 : w1.cell? ⟨w.heap.size + 1, 6, none⟩ = some (.slice (some ⟨C4, 0, none⟩) es.length es.length) := hcell HS1.out.v3 6 rfl
  have d7 : w1.cell? ⟨w.heap.size + 1, 7, none⟩ = some (.bool ln) := hcell HS1.out.v3 7 rfl
  have d8 : w1.cell? ⟨w.heap.size + 1, 8, none⟩ = some (.int .i64 ll) := hcell HS1.out.v3 8 rfl
  have d9 : w1.cell? ⟨w.heap.size + 1, 9, none⟩ = some (.int .u64 old) := hcell HS1.out.v3 9 rfl
  have d10 : w1.cell? ⟨w.heap.size + 1, 10, none⟩ = some (.int .i64 lim) := hcell HS1.out.v3 10 rfl
  go_wp2_with fail
  refine (hl2 _).mono ?_
  rintro e1 w2 ⟨rfl, hb2⟩
  have HS2 := hide (HS1.out.next hb2)
  clear hb2 HS1 hl2 d0 d1 d2 d3 d4 d5 d6 d7 d8 d9 d10
  go_wp2_with fail
  go_loopw [6] (fun q wr => ∃ k : Nat, q = .int .i64 k ∧ k ≤ es.length ∧ Hid (S13 w w.heap.size (w.heap.size + 1) #[.int .u64 e, .bool mk, .slice (some ⟨B0, 0, none⟩) es.length es.length, .slice (some ⟨B1, 0, none⟩) es.length es.length, .slice (some ⟨B2, 0, none⟩) es.length es.length, .slice (some ⟨B3, 0, none⟩) es.length es.length, .slice (some ⟨B4, 0, none⟩) es.length es.length, .bool ln, .int .i64 ll, .int .u64 old, .int .i64 lim] #[.int .u64 e, .bool mk, .slice (some ⟨C0, 0, none⟩) es.length es.length, .slice (some ⟨C1, 0, none⟩) es.length es.length, .slice (some ⟨C2, 0, none⟩) es.length es.length, .slice (some ⟨C3, 0, none⟩) es.length es.length, .slice (some ⟨C4, 0, none⟩) es.length es.length, .bool ln, .int .i64 ll, .int .u64 old, .int .i64 lim] S B0 B1 B2 B3 B4 C0 C1 C2 C3 C4 es wr)) (fun q _ => es.length - (intOf q).toNat)
  case atStart => exact ⟨0, rfl, Nat.zero_le _, HS2⟩
  case round =>
    obtain ⟨k, rfl, hk, HK⟩ := hrel
    by_cases hkn : k < es.length
    · obtain ⟨x, hxk⟩ : ∃ x, es[k]? = some x := ⟨_, List.getElem?_eq_getElem hkn⟩
      have hDx : Dev x.D := HG.out x (List.mem_of_getElem? hxk)
      obtain ⟨p0, p1, p2, p3, p4⟩ := HK.out.a.at hxk hDx
      obtain ⟨q0, q1, q2, q3, q4⟩ := HK.out.b.at hxk hDx
      have f2 : wr.cell? ⟨w.heap.size, 2, none⟩ = some (.slice (some ⟨B0, 0, none⟩) es.length es.length) := hcell HK.out.v2 2 rfl
      have f3 : wr.cell? ⟨w.heap.size, 3, none⟩ = some (.slice (some ⟨B1, 0, none⟩) es.length es.length) := hcell HK.out.v2 3 rfl
      have f4 : wr.cell? ⟨w.heap.size, 4, none⟩ = some (.slice (some ⟨B2, 0, none⟩) es.length es.length) := hcell HK.out.v2 4 rfl
      have f5 : wr.cell? ⟨w.heap.size, 5, none⟩ = some (.slice (some ⟨B3, 0, none⟩) es.length es.length) := hcell HK.out.v2 5 rfl
      have f6 : wr.cell? ⟨w.heap.size, 6, none⟩ = some (.slice (some ⟨B4, 0, none⟩) es.length es.length) := hcell HK.out.v2 6 rfl
      have g2 : wr.cell? ⟨w.heap.size + 1, 2, none⟩ = some (.slice (some ⟨C0, 0, none⟩) es.length es.length) := hcell HK.out.v3 2 rfl
      have g3 : wr.cell? ⟨w.heap.size + 1, 3, none⟩ = some (.slice (some ⟨C1, 0, none⟩) es.length es.length) := hcell HK.out.v3 3 rfl
      have g4 : wr.cell? ⟨w.heap.size + 1, 4, none⟩ = some (.slice (some ⟨C2, 0, none⟩) es.length es.length) := hcell HK.out.v3 4 rfl
      have g5 : wr.cell? ⟨w.heap.size + 1, 5, none⟩ = some (.slice (some ⟨C3, 0, none⟩) es.length es.length) := hcell HK.out.v3 5 rfl
      have g6 : wr.cell? ⟨w.heap.size + 1, 6, none⟩ = some (.slice (some ⟨C4, 0, none⟩) es.length es.length) := hcell HK.out.v3 6 rfl
      have l1 : ∀ n, (Instr.loadAt 34 (.pointer (some ⟨B1, k * 16, none⟩))).run Try.prog (wr.drewN n) = .ok (.agg x.D.toArray) (wr.drewN n) := fun n => run_loadAt_mid (wr.drewN n) B1 (k * 16) 34 x.D _ p1 Try.underlying34 rfl (by rw [hDx.1]; exact size34)
      have l2 : ∀ n, (Instr.loadAt 34 (.pointer (some ⟨C1, k * 16, none⟩))).run Try.prog (wr.drewN n) = .ok (.agg x.D.toArray) (wr.drewN n) := fun n => run_loadAt_mid (wr.drewN n) C1 (k * 16) 34 x.D _ q1 Try.underlying34 rfl (by rw [hDx.1]; exact size34)
      have HKN := hide hkn
      clear p1 q1 hxk
      go_wp2_with fail
      refine wp_region_quiet_lit (by kernel_rfl) (by kernel_rfl) ?_
      iterate 16 (go_big_quiet_step (fail))
      refine wpQuiet_by rfl fun K hK => quiet_load 34 (.tmp 80) rfl (.agg x.D.toArray) (by rintro _ ⟨n, rfl⟩; exact l1 n) (hK _ ?_)
      simp only [Act.put, List.setIfInBounds_toArray, List.set_cons_succ, List.set_cons_zero]
      clear hK K
      iterate 4 (go_big_quiet_step (fail))
      refine wpQuiet_by rfl fun K hK => quiet_load 34 (.tmp 85) rfl (.agg x.D.toArray) (by rintro _ ⟨n, rfl⟩; exact l2 n) (hK _ ?_)
      simp only [Act.put, List.setIfInBounds_toArray, List.set_cons_succ, List.set_cons_zero]
      clear hK K
      refine wpQuiet_by rfl fun K hK => quiet_binop .neq 34 (.tmp 81) (.tmp 86) 34 rfl (.bool false) (fun w _ => neq34 w hDx _ _) (hK _ ?_)
      simp only [Act.put, List.setIfInBounds_toArray, List.set_cons_succ, List.set_cons_zero]
      clear hK K
      repeat (go_big_quiet_step (fail))
      refine wpQuiet_nil ?_
      intro _ hw'
      obtain ⟨nq, rfl⟩ := hw'
      have HK2 := hide (HK.out.next (Below.drewN (Below.refl wr.heap.size wr) nq))
      go_wp2
      go_roundw
      case rel => first | exact ⟨k + 1, by go_num, by omega, HK2⟩ | (refine ⟨trivial, ?_⟩; (repeat apply Exists.intro); exact ⟨⟨k + 1, by go_num, by omega, HK2⟩, rfl⟩)
      case measure => simp [intOf]; omega
    · obtain rfl : k = es.length := by omega
      go_wp2
      go_ret
      exact ⟨rfl, HK.out.below⟩
end Go.Proofs.Qxb6603893a
