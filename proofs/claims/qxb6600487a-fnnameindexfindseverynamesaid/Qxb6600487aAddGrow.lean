import Derived.Test.Qxb6600487aAdd
namespace Go.Proofs.Qxb6600487a
open Go.RowKit Dec Go.Maps
set_option linter.unusedVariables false

theorem grow_at (B : Nat) (base : Option Addr) (L m : Nat) (M : Int) (T : List Int) (w : World) (hT : Tab B w (.slice base L L) T) (hm : 0 < m) (hb : L + m ≤ 1000000) (hM : M = (m : Int)) :
    Calls Try.prog 38 #[.slice base L L, .int .i64 M] w fun e w' => ∃ cap, L + m ≤ cap ∧ cap ≤ maxLen ∧ e = .returned (.slice (some ⟨w.heap.size, 0, none⟩) L cap) ∧
      w'.heap[w.heap.size]? = some (.cells ((T ++ List.replicate (cap - L) 0).map (Value.int .i32)).toArray 21 (0, 0)) ∧ w.grownBy w' none := by
  subst hM; exact grow_any B base L m T w hT hm hb

/-- The index while its struct's first field is being written: c0 stands there; the new table is bv. -/
structure Pre (B : Nat) (w : World) (xb mb : Nat) (c0 bv : Value) (T : List Int) (dn : Int) (n : Nat) (D : DataW Unit) : Prop where
  blk : w.heap[xb]? = some (.cells #[c0, .map (some mb), .int .i64 dn] 56 (0, 0))
  tab : Tab B w bv T
  map : w.ownsMap Try.prog 9 (plainElem Try.prog 21) mb n D
  bx : B ≤ xb
  bm : B ≤ mb

section
variable {B : Nat} {w : World} {xb mb : Nat} {c0 bv : Value} {T : List Int} {dn : Int} {n : Nat} {D : DataW Unit}
theorem Pre.put (h : Pre B w xb mb c0 bv T dn n D) (x : Value) : Pre B (w.setCell ⟨xb, 0, none⟩ x) xb mb x bv T dn n D := by
  have hx : xb ≠ mb := ownsMap_ne h.map h.blk
  refine ⟨heap_setCell_same w xb 0 _ 56 x h.blk, ?_, h.map.setCell (fun e => hx e.symm) _, h.bx, h.bm⟩
  refine h.tab.kept fun g c hgc => heap_setCell_other w _ g _ ?_
  rintro rfl
  have := h.blk
  rw [hgc] at this
  simp only [Option.some.injEq, Obj.cells.injEq] at this
  exact absurd this.2.1 (by decide)
theorem Pre.drew (h : Pre B w xb mb c0 bv T dn n D) : Pre B w.drew xb mb c0 bv T dn n D := ⟨h.blk, ⟨h.tab.shape, h.tab.len⟩, h.map, h.bx, h.bm⟩
theorem Pre.done (h : Pre B w xb mb bv bv T dn n D) : Nix B w xb mb bv T dn n D := ⟨h.blk, h.tab, h.map, h.bx, h.bm⟩
theorem Pre.kept {w0 : World} (h : Pre B w xb mb c0 bv T dn n D) (x : Value) (hk : Kept B xb mb w0 w) : Kept B xb mb w0 (w.setCell ⟨xb, 0, none⟩ x) :=
  hk.trans ⟨(Below.refl _ _).setCell h.bx _, fun k _ hkx _ _ => heap_setCell_other w _ k _ hkx⟩
theorem Kept.drew {w0 : World} (hk : Kept B xb mb w0 w) : Kept B xb mb w0 w.drew := ⟨hk.below.drew, hk.other⟩

/-- Behind 'slices.Grow': the new table lies in a block of its own. -/
theorem Nix.grown {w1 : World} {L cap : Nat} {base : Option Addr} (h : Nix B w xb mb (.slice base L L) T dn n D) (hL : L = T.length) (h1 : L ≤ cap) (h2 : cap ≤ maxLen)
    (h3 : w1.heap[w.drew.heap.size]? = some (.cells ((T ++ List.replicate (cap - L) 0).map (Value.int .i32)).toArray 21 (0, 0))) (h4 : w.drew.grownBy w1 none) :
    Pre B w1 xb mb (.slice base L L) (.slice (some ⟨w.heap.size, 0, none⟩) cap cap) (T ++ List.replicate (cap - L) 0) dn n D ∧ Kept B xb mb w w1 := by
  have hxl : xb < w.heap.size := lt_of_heap h.blk
  have hBs : B ≤ w.heap.size := by have := h.bx; omega
  have hlen : (T ++ List.replicate (cap - L) 0).length = cap := by simp; omega
  refine ⟨⟨?_, ⟨Or.inr ⟨w.heap.size, by rw [hlen], hBs, h3⟩, by rw [hlen]; exact h2⟩, ?_, h.bx, h.bm⟩, ⟨?_, fun k hk _ _ _ => h4.block k hk (by simp)⟩⟩
  · rw [h4.block xb hxl (by simp)]; exact h.blk
  · have hm : w.drew.ownsMap Try.prog 9 (plainElem Try.prog 21) mb n D := h.map
    exact hm.kept h4 (by simp)
  · have : Below B w w.drew := (Below.refl _ _).drew
    exact this.grown h4 hBs (by simp)
end

theorem hide {p : Prop} (h : p) : Hid p := h

set_option maxRecDepth 100000 in
set_option maxHeartbeats 1000000 in
theorem add_grow (B xb mb L : Nat) (base : Option Addr) (T : List Int) (dn : Int) (n : Nat) (D : DataW Unit) (s : ByteArray) (v k : Nat) (w : World) (h : Nix B w xb mb (.slice base L L) T dn n D) (hs : s.size ≤ 2000000) (hv : v ≤ 65536) (hd : dec (nb s) = some k) (hk0 : k < 1000000000) (hk : (k : Int) < (4 : Int) * (v : Int) + 65536) (hkL : L ≤ k) :
    Calls Try.prog 33 #[.pointer (some ⟨xb, 0, none⟩), .string s, .int .i32 (v : Int)] w fun e w' => e = .returned (.tuple #[]) ∧ (∃ g cap, k < cap ∧ L ≤ cap ∧ Nix B w' xb mb (.slice (some ⟨g, 0, none⟩) cap cap) ((T ++ List.replicate (cap - L) 0).set k ((v : Int) + 1)) dn n D) ∧ Kept B xb mb w w' := by
  have c0 := h.cell0
  have f0 := h.frozen 0
  have HT : Hid (Tab B w (.slice base L L) T) := h.tab
  have HN : Hid (Nix B w xb mb (.slice base L L) T dn n D) := h
  have HL : Hid (L = T.length) := by
    rcases h.tab.shape with ⟨e, e2⟩ | ⟨g, e, _⟩
    · simp only [Value.slice.injEq] at e; show _ = _; rw [e2]; exact e.2.1
    · simp only [Value.slice.injEq] at e; exact e.2.1
  clear h
  obtain ⟨q, hq⟩ : ∃ q : Int, q = 4 * (v : Int) + 65536 := ⟨_, rfl⟩
  have hadd := run_add_gen (4 * (v : Int)) 65536 q hq (by omega) (by omega)
  have hkq : (k : Int) < q := by omega
  have hkb : k < 400000 := by omega
  clear hq hk
  go_enter Try.func33, Try.ntmps33
  go_wp2_with (first | (go_at_call 37; refine (decimal_some _ _ _ hd).mono ?_; rintro e w' ⟨rfl, rfl⟩) | (refine wpList_add16 _ 18 rfl rfl (4 * (v : Int)) q rfl hadd ?_))
  clear hd hadd
  have HT2 : Hid (Tab B w.drew (.slice base L L) T) := ⟨HT.out.shape, HT.out.len⟩
  have HWR : Hid (IntKind.i64.wrap (IntKind.i64.wrap ((k : Int) + 1) - (L : Int)) = ((k + 1 - L : Nat) : Int)) := by
    show _ = _
    rw [wrap_mid ((k : Int) + 1) (by omega) (by omega), wrap_mid _ (by omega) (by omega)]; omega
  have hxl : xb < w.heap.size := lt_of_heap HN.out.blk
  have HC : Hid (∀ w1 : World, w.drew.grownBy w1 none → w1.cell? ⟨xb, 0, none⟩ = some (.slice base L L) ∧ w1.frozen? ⟨xb, 0, none⟩ = false) := fun w1 hg =>
    ⟨(World.cell?_of_block (w := w.drew) (a := ⟨xb, 0, none⟩) (hg.block xb hxl (by simp))).trans c0, (World.frozen?_of_block (w := w.drew) (a := ⟨xb, 0, none⟩) (hg.block xb hxl (by simp))).trans f0⟩
  go_region_with (go_at_call 38; refine (grow_at B base L (k + 1 - L) _ T _ HT2.out (by omega) (by omega) HWR.out).mono ?_; rintro e w1 ⟨cap, h1, h2, rfl, h3, h4⟩; obtain ⟨hc1, hf1⟩ := HC.out w1 h4; have H3 := hide h3; have H4 := hide h4; clear h3 h4)
  all_goals
    simp only [Exit.then]
    have h2' : cap ≤ 9223372036854775807 := by have := h2; unfold maxLen at this; omega
    obtain ⟨hP, hK⟩ := HN.out.grown HL.out (by omega) h2 H3.out H4.out
    have hP1 := hP.put (.slice (some ⟨w.heap.size, 0, none⟩) L cap)
    have hK1 := hP.kept (.slice (some ⟨w.heap.size, 0, none⟩) L cap) hK
    have hP2 := hP1.drew.put (.slice (some ⟨w.heap.size, 0, none⟩) cap cap)
    have hK2 := hP1.drew.kept (.slice (some ⟨w.heap.size, 0, none⟩) cap cap) hK1.drew
    have hN2 := hP2.done
    obtain ⟨hN3, hK3, hLL, hg3⟩ := hN2.tabled k ((v : Int) + 1)
    have HN3 := hide hN3
    have HK3 := hide (hK2.trans hK3)
    have e0 : cap = (T ++ List.replicate (cap - L) 0).length := by have := HL.out; simp; omega
    have hcG : (w1.setCell ⟨xb, 0, none⟩ (.slice (some ⟨w.heap.size, 0, none⟩) L cap)).cell? ⟨w.heap.size, k, none⟩ = some (.int .i32 ((T ++ List.replicate (cap - L) 0).getD k 0)) := by
      rcases hP1.tab.shape with ⟨e, _⟩ | ⟨g', e, _, hg'⟩
      · cases e
      · simp only [Value.slice.injEq, Option.some.injEq, Addr.mk.injEq, and_true] at e
        obtain ⟨rfl, _⟩ := e
        rw [cell_of_row _ _ k _ 21 _ hg']
        have hk' : k < (T ++ List.replicate (cap - L) 0).length := by omega
        rw [List.getD_eq_getElem?_getD, List.getElem?_toArray, List.getElem?_map, List.getElem?_eq_getElem hk']
        rfl
    have hfG : (w1.setCell ⟨xb, 0, none⟩ (.slice (some ⟨w.heap.size, 0, none⟩) L cap)).frozen? ⟨w.heap.size, k, none⟩ = false := by
      rcases hP1.tab.shape with ⟨e, _⟩ | ⟨g', e, _, hg'⟩
      · cases e
      · simp only [Value.slice.injEq, Option.some.injEq, Addr.mk.injEq, and_true] at e
        obtain ⟨rfl, _⟩ := e
        exact frozen_of_row _ _ k _ 21 hg'
    have hcX : (w1.setCell ⟨xb, 0, none⟩ (.slice (some ⟨w.heap.size, 0, none⟩) L cap)).cell? ⟨xb, 0, none⟩ = some (.slice (some ⟨w.heap.size, 0, none⟩) L cap) := by rw [cell_of_row _ xb 0 _ 56 _ hP1.blk]; rfl
    have hfX : (w1.setCell ⟨xb, 0, none⟩ (.slice (some ⟨w.heap.size, 0, none⟩) L cap)).frozen? ⟨xb, 0, none⟩ = false := frozen_of_row _ xb 0 _ 56 hP1.blk
    generalize (T ++ List.replicate (cap - L) 0).getD k 0 = c0' at hcG
    clear hLL hP hP1 hP2 hN2 hN3 hK hK1 hK2 hK3 hg3 HN HT HT2 HC H3 H4 e0 hc1 hf1 HWR HL c0 f0
    generalize w1.setCell ⟨xb, 0, none⟩ (.slice (some ⟨w.heap.size, 0, none⟩) L cap) = W1 at *
    generalize hG : w.heap.size = G at *
    clear hG
    have hne : xb ≠ G := by omega
    go_wp2_with fail
    go_region
    all_goals
      simp only [Exit.then]
      go_wp2
      exact bodyPost_ret (v := .tuple #[]) (by simp [results, Try.results33]) rfl ⟨rfl, ⟨G, cap, by omega, by omega, HN3.out⟩, HK3.out⟩
end Go.Proofs.Qxb6600487a
