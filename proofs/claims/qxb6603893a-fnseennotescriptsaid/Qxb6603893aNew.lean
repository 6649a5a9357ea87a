/-
  'ZZNewSeenHistory': a history laid of its fields.
-/
import Derived.Test.Qxb6603893aSame2
import Derived.Test.Qxb6603893aNote2
namespace Go.Proofs.Qxb6603893a
open Go.RowKit Go.Maps
set_option linter.unusedVariables false

/-- Devices in the caller's memory. -/
def DevsAt (w : World) (a : Option Addr) (ks : List (List Value)) : Prop :=
  (∀ D ∈ ks, Dev D) ∧ (ks ≠ [] → ∃ b off, a = some ⟨b, off, none⟩ ∧ b < w.heap.size ∧ ∀ (k : Nat) (D : List Value), ks[k]? = some D → w.rangeAt b (off + k * 16) D)
def IntsAt (w : World) (q : IntKind) (a : Option Addr) (vs : List Int) : Prop :=
  (∀ v ∈ vs, (Lit.int q v).wf = true) ∧ (vs ≠ [] → ∃ b off, a = some ⟨b, off, none⟩ ∧ b < w.heap.size ∧ ∀ (k : Nat) (v : Int), vs[k]? = some v → w.cell? ⟨b, off + k, none⟩ = some (.int q v))
theorem rangeAt_below {w w' : World} {b o : Nat} {cs : List Value} (h : w.rangeAt b o cs) (hb : w'.heap[b]? = w.heap[b]?) : w'.rangeAt b o cs := fun j v hv => by
  rw [World.cell?_of_block (w := w) (w' := w') (a := ⟨b, o + j, none⟩) hb]
  exact h j v hv

/-- The row of changes, as far as it is laid. -/
structure CH (w0 : World) (g n k : Nat) (es : List Ent) (w : World) : Prop where
  below : Below w0.heap.size w0 w
  row : ∃ c, w.heap[g]? = some (.cells c 73 (0, 0)) ∧ c.size = n * 20 ∧ ∀ (t : Nat) (x : Ent) (j : Nat), t < k → es[t]? = some x → j < 20 → c[t * 20 + j]? = x.cells[j]?
theorem CH.drewN {w0 : World} {g n k : Nat} {es : List Ent} {w : World} (h : CH w0 g n k es w) (m : Nat) : CH w0 g n k es (w.drewN m) := ⟨Below.drewN h.below m, h.row⟩
theorem CH.step {w0 : World} {g n k : Nat} {es : List Ent} {w : World} (h : CH w0 g n k es w) (hg : w0.heap.size ≤ g) {x : Ent} (hx : es[k]? = some x) (hD : Dev x.D) (hk : k < n) : CH w0 g n (k + 1) es (w.setCells g (k * 20) x.cells) := by
  obtain ⟨c, q, hs, f⟩ := h.row
  refine ⟨below_setCells hg _ _ _ h.below, setAll c (k * 20) x.cells, heap_setCells_same g 73 _ _ _ c q, by rw [size_setAll]; exact hs, fun t y j ht hy hj => ?_⟩
  have hl := Ent.length hD
  by_cases e : t = k
  · subst e
    rw [hx] at hy
    cases hy
    exact setAll_in _ _ _ _ (by omega) (by omega)
  · rw [setAll_out _ _ _ _ (by omega)]
    exact f t y j (by omega) hy hj
theorem list_ext20 {es : List Ent} (hg : Goods es) {c : Array Value} (hs : c.size = es.length * 20) (f : ∀ (t : Nat) (x : Ent) (j : Nat), es[t]? = some x → j < 20 → c[t * 20 + j]? = x.cells[j]?) : c.toList = flat es := by
  apply List.ext_getElem?
  intro i
  by_cases hi : i < es.length * 20
  · have ht : i / 20 < es.length := by omega
    have h1 := f (i / 20) _ (i % 20) (List.getElem?_eq_getElem ht) (Nat.mod_lt _ (by omega))
    have h2 := flat_at hg (List.getElem?_eq_getElem ht) (Nat.mod_lt i (show 0 < 20 by omega))
    rw [show i / 20 * 20 + i % 20 = i by omega] at h1 h2
    rw [Array.getElem?_toList, h1, h2]
  · rw [List.getElem?_eq_none (by simp; omega), List.getElem?_eq_none (by rw [flat_length hg]; omega)]
theorem CH.owns {w0 : World} {g : Nat} {es : List Ent} {w : World} (h : CH w0 g es.length es.length es w) (hg : w0.heap.size ≤ g) (hG : Goods es) (hn : es.length ≤ 2000000) : w.ownsRow w0.heap.size 73 20 (.slice (some ⟨g, 0, none⟩) es.length es.length) es.length (flat es) := by
  obtain ⟨c, q, hs, f⟩ := h.row
  refine ⟨flat_length hG, .inr ⟨g, es.length, c, rfl, hg, q, Nat.le_refl _, by unfold maxLen; omega, hs, ?_⟩⟩
  rw [← list_ext20 hG hs fun t x j hx hj => f t x j (lt_idx hx) hx hj, List.take_of_length_le (by simp; omega)]

theorem makeMap_hint (n : Int) (w : World) : (Instr.makeMap 69 (some (.int .i64 n))).run Try.prog w = .ok (.map (some w.heap.size)) (w.alloc (.map #[] 0)) := by
  simp [Instr.makeMap, run_underlying Try.underlying69, asInt, go_sem]

/-- What the maker hands back. -/
structure Built (S : Nat) (h : Nat) (e : Int) (mk ln : Bool) (old lim : Int) (nk : Nat) (es : List Ent) (w : World) : Prop where
  hS : S ≤ h
  main : ∃ chv mo, w.heap[h]? = some (.cells #[.int .u64 e, .bool mk, chv, .map mo, .int .u64 old, .int .i64 lim] 71 (0, 0)) ∧ w.ownsRow S 73 20 chv es.length (flat es) ∧
    ((ln = true ∧ mo = none) ∨ (ln = false ∧ ∃ (mb : Nat) (M : DataW Unit), mo = some mb ∧ S ≤ mb ∧ w.ownsMap Try.prog 65 (plainElem Try.prog 28) mb nk M))

/-- The rows so far, and the map. -/
structure MP (w0 : World) (chv : Value) (es : List Ent) (mb k : Nat) (w : World) : Prop where
  below : Below w0.heap.size w0 w
  row : w.ownsRow w0.heap.size 73 20 chv es.length (flat es)
  map : ∃ M : DataW Unit, w.ownsMap Try.prog 65 (plainElem Try.prog 28) mb k M
theorem MP.step {w0 : World} {chv : Value} {es : List Ent} {mb k : Nat} {w w' : World} (h : MP w0 chv es mb k w) (hmb : w0.heap.size ≤ mb) {M : DataW Unit} (hm : w'.ownsMap Try.prog 65 (plainElem Try.prog 28) mb (k + 1) M) (hg : (w.drewN 1).grownBy w' (some mb)) : MP w0 chv es mb (k + 1) w' := by
  obtain ⟨M0, hm0⟩ := h.map
  refine ⟨(Below.drewN h.below 1).grown hg h.below.size (by rintro k h'; cases h'; exact hmb), ?_, M, hm⟩
  have hr : (w.drewN 1).ownsRow w0.heap.size 73 20 chv es.length (flat es) := h.row
  refine hr.kept hg ?_
  cases hv : chv.ownBlock with
  | none => exact .inl rfl
  | some q => exact .inr fun e' => map_row_ne h.row hm0 (by rw [hv]; exact e'.symm)

set_option maxRecDepth 100000 in
set_option maxHeartbeats 4000000 in
theorem new15 (e : Int) (mk : Bool) (S B0 B1 B2 B3 B4 : Nat) (es : List Ent) (ln : Bool) (ka va : Option Addr) (kc vc : Nat) (ks : List (List Value)) (vs : List Int) (old lim : Int) (w : World)
    (hn : es.length ≤ 2000000) (hg : Goods es) (hs : SeenV S B0 B1 B2 B3 B4 es w) (hks : DevsAt w ka ks) (hvs : IntsAt w .u64 va vs) (hkv : vs.length = ks.length) (hkn : ks.length ≤ 2000000) :
    Calls Try.prog 15 #[.int .u64 e, .bool mk, .slice (some ⟨B0, 0, none⟩) es.length es.length, .slice (some ⟨B1, 0, none⟩) es.length es.length, .slice (some ⟨B2, 0, none⟩) es.length es.length, .slice (some ⟨B3, 0, none⟩) es.length es.length, .slice (some ⟨B4, 0, none⟩) es.length es.length,
      .bool ln, .slice ka ks.length kc, .slice va vs.length vc, .int .u64 old, .int .i64 lim] w fun ex w' => ∃ h, ex = .returned (.pointer (some ⟨h, 0, none⟩)) ∧ Built w.heap.size h e mk ln old lim ks.length es w' ∧ Below w.heap.size w w' := by
  have hmm := makeMap_hint
  obtain ⟨i73, hi, hz0, hz1, hz2⟩ := info_parts info73
  have HG := hide hg
  have HS := hide hs
  have HK := hide hks
  have HV := hide hvs
  have HKV := hide hkv
  have HN := hide hn
  clear hg hs hks hvs
  rw [hkv]
  clear hkv
  by_cases hz : es.length = 0
  · have HR : Hid (w.ownsRow w.heap.size 73 20 (.slice none 0 0) es.length (flat es)) := by
      have : es = [] := List.eq_nil_of_length_eq_zero hz
      subst this
      exact World.ownsRow_nil _ _ _ _
    have HB : Hid (Below w.heap.size w w) := Below.refl _ _
    rw [hz]
    go_enter Try.func15, Try.ntmps15
    cases ln
    case true =>
      go_wp2
      go_ret
      refine ⟨_, rfl, ⟨HB.out.size, _, _, heap_alloc_new w _, HR.out.alloc _, .inl ⟨rfl, rfl⟩⟩, HB.out.alloc HB.out.size _⟩
    case false =>
      go_wp2_with fail
      have HM0 : Hid (MP w (.slice none 0 0) es w.heap.size 0 (w.alloc (.map #[] 0))) := ⟨HB.out.alloc HB.out.size _, HR.out.alloc _, _, World.ownsMap_made w Try.prog 65 (plainElem Try.prog 28)⟩
      have HMB : Hid (w.heap.size ≤ w.heap.size) := HB.out.size
      go_loopw [28] (fun q wr => ∃ k : Nat, q = .int .i64 k ∧ k ≤ ks.length ∧ Hid (MP w (.slice none 0 0) es w.heap.size k wr)) (fun q _ => ks.length - (intOf q).toNat)
      case atStart => exact ⟨0, rfl, Nat.zero_le _, HM0⟩
      case round =>
        obtain ⟨k, rfl, hk, HP⟩ := hrel
        by_cases hkk : k < ks.length
        · obtain ⟨D, hDk⟩ : ∃ D, ks[k]? = some D := ⟨_, List.getElem?_eq_getElem hkk⟩
          obtain ⟨v, hvk⟩ : ∃ v, vs[k]? = some v := ⟨_, List.getElem?_eq_getElem (by rw [HKV.out]; exact hkk)⟩
          have hD : Dev D := HK.out.1 D (List.mem_of_getElem? hDk)
          have hwv := HV.out.1 v (List.mem_of_getElem? hvk)
          obtain ⟨kb, koff, rfl, hkb, hkr⟩ := HK.out.2 (fun e => by rw [e] at hkk; cases hkk)
          obtain ⟨vb, voff, rfl, hvb, hvr⟩ := HV.out.2 (fun e => by rw [e] at hvk; cases hvk)
          have hr0 : wr.rangeAt kb (koff + k * 16) D := rangeAt_below (hkr k D hDk) (HP.out.below.block kb hkb)
          have hv0 : wr.cell? ⟨vb, voff + k, none⟩ = some (.int .u64 v) := (HP.out.below.cell hvb).trans (hvr k v hvk)
          have l34 : ∀ n, (Instr.loadAt 34 (.pointer (some ⟨kb, koff + k * 16, none⟩))).run Try.prog (wr.drewN n) = .ok (.agg D.toArray) (wr.drewN n) := fun n => run_loadAt_mid (wr.drewN n) kb (koff + k * 16) 34 D _ hr0 Try.underlying34 rfl (by rw [hD.1]; exact size34)
          clear hr0 hDk hvk
          go_wp2_with fail
          refine wp_region_mix (fun w' => ∃ n, w' = wr.drewN n) 9 (by kernel_rfl) (by kernel_rfl) rfl (fun hR => ?_)
          refine wpMix_step hR 0 rfl (by kernel_rfl) rfl (fun K hK => ?_)
          go_big_quiet_op
          refine hK _ ?_
          clear hK K
          refine wpMix_step hR 1 rfl (by kernel_rfl) rfl (fun K hK => ?_)
          go_big_quiet_op
          refine hK _ ?_
          clear hK K
          refine wpMix_step hR 2 rfl (by kernel_rfl) rfl (fun K hK => ?_)
          go_big_quiet_op
          refine hK _ ?_
          clear hK K
          refine wpMix_step hR 3 rfl (by kernel_rfl) rfl (fun K hK => ?_)
          go_big_quiet_op
          refine hK _ ?_
          clear hK K
          refine wpMix_step hR 4 rfl (by kernel_rfl) rfl (fun K hK => quiet_load 34 (.tmp 80) rfl (.agg D.toArray) (by rintro _ ⟨n, rfl⟩; exact l34 n) (hK _ ?_))
          simp only [Act.put, List.setIfInBounds_toArray, List.set_cons_succ, List.set_cons_zero]
          clear hK K
          refine wpMix_step hR 5 rfl (by kernel_rfl) rfl (fun K hK => ?_)
          go_big_quiet_op
          refine hK _ ?_
          clear hK K
          refine wpMix_step hR 6 rfl (by kernel_rfl) rfl (fun K hK => ?_)
          go_big_quiet_op
          refine hK _ ?_
          clear hK K
          refine wpMix_step hR 7 rfl (by kernel_rfl) rfl (fun K hK => ?_)
          go_big_quiet_op
          refine hK _ ?_
          clear hK K
          refine wpMix_step hR 8 rfl (by kernel_rfl) rfl (fun K hK => ?_)
          go_big_quiet_op
          refine hK _ ?_
          clear hK K
          refine ⟨⟨1, rfl⟩, by kernel_rfl, ?_⟩
          obtain ⟨M, hM⟩ := HP.out.map
          have hM' : (wr.drewN 1).ownsMap Try.prog 65 (plainElem Try.prog 28) w.heap.size k M := hM
          refine wpList_mapUpdate_own _ rfl _ _ _ 69 rfl 65 28 law65 Try.underlying69 _ w.heap.size k M rfl hM' (by unfold maxLen; omega) _ _ _ rfl rfl hD.hkey _ [] (plainElem_int Try.underlying28 hwv) ?_
          intro w4 hm4 hg4
          have HP4 := hide (HP.out.step HMB.out hm4 hg4)
          clear hm4 hg4 hM hM' l34 hv0 hR
          simp only [Act.put]
          go_wp2
          go_roundw
          case rel => first | exact ⟨k + 1, by go_num, by omega, HP4⟩ | (refine ⟨trivial, ?_⟩; (repeat apply Exists.intro); exact ⟨⟨k + 1, by go_num, by omega, HP4⟩, rfl⟩)
          case measure => simp [intOf]; omega
        · obtain rfl : k = ks.length := by omega
          go_wp2
          go_ret
          obtain ⟨M, hM⟩ := HP.out.map
          exact ⟨_, rfl, ⟨HP.out.below.size, _, _, heap_alloc_new wr _, HP.out.row.alloc _, .inr ⟨rfl, _, M, rfl, HMB.out, hM.alloc _⟩⟩, HP.out.below.alloc HP.out.below.size _⟩
  · have hpos : 0 < es.length := by omega
    go_enter Try.func15, Try.ntmps15
    go_wp2_with (at_make; refine wpList_make_full _ rfl _ _ 68 rfl w.heap.size 73 i73 z73 20 Try.underlying68 hi hz0 hz1 _ _ _ _ es.length rfl rfl rfl rfl (by rw [hz2]; omega) (by unfold maxLen; omega) (Nat.le_refl _) ?_; intro w1 hown hgrow)
    have HC0 : Hid (CH w w.heap.size es.length 0 es w1) := by
      refine ⟨(Below.refl _ _).grown hgrow (Nat.le_refl _) (by simp), ?_⟩
      rcases hown.2 with ⟨h3, _⟩ | ⟨g, cap, cur, e, _, h5, _, _, h6, _⟩
      · cases h3
      · cases e
        exact ⟨cur, h5, h6, fun t x j h => by omega⟩
    clear hown hgrow
    go_loopw [26] (fun q wr => ∃ k : Nat, q = .int .i64 k ∧ k ≤ es.length ∧ Hid (CH w w.heap.size es.length k es wr)) (fun q _ => es.length - (intOf q).toNat)
    case atStart => exact ⟨0, rfl, Nat.zero_le _, HC0⟩
    case round =>
      obtain ⟨k, rfl, hk, HC⟩ := hrel
      by_cases hkn' : k < es.length
      · obtain ⟨x, hxk⟩ : ∃ x, es[k]? = some x := ⟨_, List.getElem?_eq_getElem hkn'⟩
        have hDx : Dev x.D := HG.out x (List.mem_of_getElem? hxk)
        have hsv := HS.out.of_blocks (w' := wr) fun q hq _ => HC.out.below.block q hq
        obtain ⟨p0, p1, p2, p3, p4⟩ := hsv.at hxk hDx
        have l1 : ∀ n, (Instr.loadAt 34 (.pointer (some ⟨B1, k * 16, none⟩))).run Try.prog (wr.drewN n) = .ok (.agg x.D.toArray) (wr.drewN n) := fun n => run_loadAt_mid (wr.drewN n) B1 (k * 16) 34 x.D _ p1 Try.underlying34 rfl (by rw [hDx.1]; exact size34)
        have HC1 : Hid (CH w w.heap.size es.length (k + 1) es ((wr.drewN 1).setCells w.heap.size (k * 20) x.cells)) := (HC.out.drewN 1).step (Nat.le_refl _) hxk hDx hkn'
        have HT : Hid ((wr.drewN 1).there w.heap.size (k * 20) x.cells.toArray.size) := by
          obtain ⟨c, q, s, _⟩ := HC.out.row
          exact there_of_heap (w := wr.drewN 1) q (by rw [s]; simp only [List.size_toArray, Ent.length hDx]; omega)
        clear p1 hsv hxk
        go_wp2_with fail
        refine wp_region_mix (fun w' => ∃ n, w' = wr.drewN n) 25 (by kernel_rfl) (by kernel_rfl) rfl (fun hR => ?_)
        refine wpMix_step hR 0 rfl (by kernel_rfl) rfl (fun K hK => ?_)
        go_big_quiet_op
        refine hK _ ?_
        clear hK K
        refine wpMix_step hR 1 rfl (by kernel_rfl) rfl (fun K hK => ?_)
        go_big_quiet_op
        refine hK _ ?_
        clear hK K
        refine wpMix_step hR 2 rfl (by kernel_rfl) rfl (fun K hK => ?_)
        go_big_quiet_op
        refine hK _ ?_
        clear hK K
        refine wpMix_step hR 3 rfl (by kernel_rfl) rfl (fun K hK => ?_)
        go_big_quiet_op
        refine hK _ ?_
        clear hK K
        refine wpMix_step hR 4 rfl (by kernel_rfl) rfl (fun K hK => ?_)
        go_big_quiet_op
        refine hK _ ?_
        clear hK K
        refine wpMix_step hR 5 rfl (by kernel_rfl) rfl (fun K hK => ?_)
        go_big_quiet_op
        refine hK _ ?_
        clear hK K
        refine wpMix_step hR 6 rfl (by kernel_rfl) rfl (fun K hK => ?_)
        go_big_quiet_op
        refine hK _ ?_
        clear hK K
        refine wpMix_step hR 7 rfl (by kernel_rfl) rfl (fun K hK => ?_)
        go_big_quiet_op
        refine hK _ ?_
        clear hK K
        refine wpMix_step hR 8 rfl (by kernel_rfl) rfl (fun K hK => ?_)
        go_big_quiet_op
        refine hK _ ?_
        clear hK K
        refine wpMix_step hR 9 rfl (by kernel_rfl) rfl (fun K hK => quiet_load 34 (.tmp 49) rfl (.agg x.D.toArray) (by rintro _ ⟨n, rfl⟩; exact l1 n) (hK _ ?_))
        simp only [Act.put, List.setIfInBounds_toArray, List.set_cons_succ, List.set_cons_zero]
        clear hK K
        refine wpMix_step hR 10 rfl (by kernel_rfl) rfl (fun K hK => ?_)
        go_big_quiet_op
        refine hK _ ?_
        clear hK K
        refine wpMix_step hR 11 rfl (by kernel_rfl) rfl (fun K hK => ?_)
        go_big_quiet_op
        refine hK _ ?_
        clear hK K
        refine wpMix_step hR 12 rfl (by kernel_rfl) rfl (fun K hK => ?_)
        go_big_quiet_op
        refine hK _ ?_
        clear hK K
        refine wpMix_step hR 13 rfl (by kernel_rfl) rfl (fun K hK => ?_)
        go_big_quiet_op
        refine hK _ ?_
        clear hK K
        refine wpMix_step hR 14 rfl (by kernel_rfl) rfl (fun K hK => ?_)
        go_big_quiet_op
        refine hK _ ?_
        clear hK K
        refine wpMix_step hR 15 rfl (by kernel_rfl) rfl (fun K hK => ?_)
        go_big_quiet_op
        refine hK _ ?_
        clear hK K
        refine wpMix_step hR 16 rfl (by kernel_rfl) rfl (fun K hK => ?_)
        go_big_quiet_op
        refine hK _ ?_
        clear hK K
        refine wpMix_step hR 17 rfl (by kernel_rfl) rfl (fun K hK => ?_)
        go_big_quiet_op
        refine hK _ ?_
        clear hK K
        refine wpMix_step hR 18 rfl (by kernel_rfl) rfl (fun K hK => quiet_build 67 _ rfl #[.int .i64 x.wl, .int .u32 x.ct] (built67 x.wl x.ct) (hK _ ?_))
        simp only [Act.put, List.setIfInBounds_toArray, List.set_cons_succ, List.set_cons_zero]
        clear hK K
        refine wpMix_step hR 19 rfl (by kernel_rfl) rfl (fun K hK => ?_)
        go_big_quiet_op
        refine hK _ ?_
        clear hK K
        refine wpMix_step hR 20 rfl (by kernel_rfl) rfl (fun K hK => ?_)
        go_big_quiet_op
        refine hK _ ?_
        clear hK K
        refine wpMix_step hR 21 rfl (by kernel_rfl) rfl (fun K hK => ?_)
        go_big_quiet_op
        refine hK _ ?_
        clear hK K
        refine wpMix_step hR 22 rfl (by kernel_rfl) rfl (fun K hK => ?_)
        go_big_quiet_op
        refine hK _ ?_
        clear hK K
        refine wpMix_step hR 23 rfl (by kernel_rfl) rfl (fun K hK => quiet_build 73 _ rfl x.cells.toArray (built73 x hDx) (hK _ ?_))
        simp only [Act.put, List.setIfInBounds_toArray, List.set_cons_succ, List.set_cons_zero]
        clear hK K
        refine wpMix_step hR 24 rfl (by kernel_rfl) rfl (fun K hK => ?_)
        go_big_quiet_op
        refine hK _ ?_
        clear hK K
        refine ⟨⟨1, rfl⟩, by kernel_rfl, ?_⟩
        refine wpList_store_all rfl 73 (.tmp 65) (.tmp 64) rfl w.heap.size (k * 20) x.cells.toArray rfl rfl HT.out (by simp only [List.size_toArray, Ent.length hDx]; exact size73) (all_oneCell_toArray (Ent.oneCell hDx)) ?_
        intro w5 hw5
        rw [← show w5 = (wr.drewN 1).setCells w.heap.size (k * 20) x.cells from hw5] at HC1
        clear hw5 hR HT l1
        simp only [Act.put]
        go_wp2
        go_roundw
        case rel => first | exact ⟨k + 1, by go_num, by omega, HC1⟩ | (refine ⟨trivial, ?_⟩; (repeat apply Exists.intro); exact ⟨⟨k + 1, by go_num, by omega, HC1⟩, rfl⟩)
        case measure => simp [intOf]; omega
      · obtain rfl : k = es.length := by omega
        obtain ⟨wv, rfl⟩ : ∃ wv, wv = wr := ⟨_, rfl⟩
        have HR : Hid (wv.ownsRow w.heap.size 73 20 (.slice (some ⟨w.heap.size, 0, none⟩) es.length es.length) es.length (flat es)) := HC.out.owns (Nat.le_refl _) HG.out HN.out
        have HB : Hid (Below w.heap.size w wv) := HC.out.below
        cases ln
        case true =>
          go_wp2
          go_ret
          refine ⟨_, rfl, ⟨HB.out.size, _, _, heap_alloc_new wv _, HR.out.alloc _, .inl ⟨rfl, rfl⟩⟩, HB.out.alloc HB.out.size _⟩
        case false =>
          go_wp2_with fail
          have HM0 : Hid (MP w (.slice (some ⟨w.heap.size, 0, none⟩) es.length es.length) es wv.heap.size 0 (wv.alloc (.map #[] 0))) := ⟨HB.out.alloc HB.out.size _, HR.out.alloc _, _, World.ownsMap_made wv Try.prog 65 (plainElem Try.prog 28)⟩
          have HMB : Hid (w.heap.size ≤ wv.heap.size) := HB.out.size
          go_loopw [28] (fun q wr => ∃ k : Nat, q = .int .i64 k ∧ k ≤ ks.length ∧ Hid (MP w (.slice (some ⟨w.heap.size, 0, none⟩) es.length es.length) es wv.heap.size k wr)) (fun q _ => ks.length - (intOf q).toNat)
          case atStart => exact ⟨0, rfl, Nat.zero_le _, HM0⟩
          case round =>
            obtain ⟨k, rfl, hk, HP⟩ := hrel
            by_cases hkk : k < ks.length
            · obtain ⟨D, hDk⟩ : ∃ D, ks[k]? = some D := ⟨_, List.getElem?_eq_getElem hkk⟩
              obtain ⟨v, hvk⟩ : ∃ v, vs[k]? = some v := ⟨_, List.getElem?_eq_getElem (by rw [HKV.out]; exact hkk)⟩
              have hD : Dev D := HK.out.1 D (List.mem_of_getElem? hDk)
              have hwv := HV.out.1 v (List.mem_of_getElem? hvk)
              obtain ⟨kb, koff, rfl, hkb, hkr⟩ := HK.out.2 (fun e => by rw [e] at hkk; cases hkk)
              obtain ⟨vb, voff, rfl, hvb, hvr⟩ := HV.out.2 (fun e => by rw [e] at hvk; cases hvk)
              have hr0 : wr.rangeAt kb (koff + k * 16) D := rangeAt_below (hkr k D hDk) (HP.out.below.block kb hkb)
              have hv0 : wr.cell? ⟨vb, voff + k, none⟩ = some (.int .u64 v) := (HP.out.below.cell hvb).trans (hvr k v hvk)
              have l34 : ∀ n, (Instr.loadAt 34 (.pointer (some ⟨kb, koff + k * 16, none⟩))).run Try.prog (wr.drewN n) = .ok (.agg D.toArray) (wr.drewN n) := fun n => run_loadAt_mid (wr.drewN n) kb (koff + k * 16) 34 D _ hr0 Try.underlying34 rfl (by rw [hD.1]; exact size34)
              clear hr0 hDk hvk
              go_wp2_with fail
              refine wp_region_mix (fun w' => ∃ n, w' = wr.drewN n) 9 (by kernel_rfl) (by kernel_rfl) rfl (fun hR => ?_)
              refine wpMix_step hR 0 rfl (by kernel_rfl) rfl (fun K hK => ?_)
              go_big_quiet_op
              refine hK _ ?_
              clear hK K
              refine wpMix_step hR 1 rfl (by kernel_rfl) rfl (fun K hK => ?_)
              go_big_quiet_op
              refine hK _ ?_
              clear hK K
              refine wpMix_step hR 2 rfl (by kernel_rfl) rfl (fun K hK => ?_)
              go_big_quiet_op
              refine hK _ ?_
              clear hK K
              refine wpMix_step hR 3 rfl (by kernel_rfl) rfl (fun K hK => ?_)
              go_big_quiet_op
              refine hK _ ?_
              clear hK K
              refine wpMix_step hR 4 rfl (by kernel_rfl) rfl (fun K hK => quiet_load 34 (.tmp 80) rfl (.agg D.toArray) (by rintro _ ⟨n, rfl⟩; exact l34 n) (hK _ ?_))
              simp only [Act.put, List.setIfInBounds_toArray, List.set_cons_succ, List.set_cons_zero]
              clear hK K
              refine wpMix_step hR 5 rfl (by kernel_rfl) rfl (fun K hK => ?_)
              go_big_quiet_op
              refine hK _ ?_
              clear hK K
              refine wpMix_step hR 6 rfl (by kernel_rfl) rfl (fun K hK => ?_)
              go_big_quiet_op
              refine hK _ ?_
              clear hK K
              refine wpMix_step hR 7 rfl (by kernel_rfl) rfl (fun K hK => ?_)
              go_big_quiet_op
              refine hK _ ?_
              clear hK K
              refine wpMix_step hR 8 rfl (by kernel_rfl) rfl (fun K hK => ?_)
              go_big_quiet_op
              refine hK _ ?_
              clear hK K
              refine ⟨⟨1, rfl⟩, by kernel_rfl, ?_⟩
              obtain ⟨M, hM⟩ := HP.out.map
              have hM' : (wr.drewN 1).ownsMap Try.prog 65 (plainElem Try.prog 28) wv.heap.size k M := hM
              refine wpList_mapUpdate_own _ rfl _ _ _ 69 rfl 65 28 law65 Try.underlying69 _ wv.heap.size k M rfl hM' (by unfold maxLen; omega) _ _ _ rfl rfl hD.hkey _ [] (plainElem_int Try.underlying28 hwv) ?_
              intro w4 hm4 hg4
              have HP4 := hide (HP.out.step HMB.out hm4 hg4)
              clear hm4 hg4 hM hM' l34 hv0 hR
              simp only [Act.put]
              go_wp2
              go_roundw
              case rel => first | exact ⟨k + 1, by go_num, by omega, HP4⟩ | (refine ⟨trivial, ?_⟩; (repeat apply Exists.intro); exact ⟨⟨k + 1, by go_num, by omega, HP4⟩, rfl⟩)
              case measure => simp [intOf]; omega
            · obtain rfl : k = ks.length := by omega
              go_wp2
              go_ret
              obtain ⟨M, hM⟩ := HP.out.map
              exact ⟨_, rfl, ⟨HP.out.below.size, _, _, heap_alloc_new wr _, HP.out.row.alloc _, .inr ⟨rfl, _, M, rfl, HMB.out, hM.alloc _⟩⟩, HP.out.below.alloc HP.out.below.size _⟩
end Go.Proofs.Qxb6603893a
