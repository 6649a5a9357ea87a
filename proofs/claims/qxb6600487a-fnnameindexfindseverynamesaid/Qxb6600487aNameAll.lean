import Derived.Test.Qxb6600487aNameLaw
namespace Go.Proofs.Qxb6600487a
open Go.RowKit Dec Go.Maps
set_option linter.unusedVariables false

set_option maxHeartbeats 400000 in
theorem bytes13_empty (x : Addr) (cap : Nat) (w : World) : Calls Try.prog 13 #[.slice (some x) 0 cap] w fun e w' => e = .returned (.bool true) ∧ w = w' := by
  go_enter Try.func13, Try.ntmps13
  go_wp2
  refine wp_loop_rounds 1 ?_
  rw [rounds_succ]
  go_wp2
  go_ret
  exact ⟨rfl, rfl⟩

set_option maxHeartbeats 400000 in
theorem clone14_empty (x : Addr) (cap : Nat) (w : World) : Calls Try.prog 14 #[.slice (some x) 0 cap] w fun e w' => e = .returned (.slice (some ⟨w.heap.size, 0, none⟩) 0 0) ∧ Below w.heap.size w w' ∧ w.heap.size ≤ w'.heap.size := by
  obtain ⟨i0, hi, hz0, hz1, hz2⟩ := info_parts Try.info9
  have hnil := nil_eql29
  go_enter Try.func14, Try.ntmps14
  go_wp2_with (at_make; refine wpList_make_full _ rfl _ _ 29 rfl w.heap.size 9 i0 (.string ⟨#[]⟩) 1 Try.underlying29 hi hz0 hz1 _ _ _ _ 0 rfl rfl rfl rfl (by rw [hz2]; omega) (by unfold maxLen; omega) (Nat.le_refl _) ?_)
  intro w1 hown hgrow
  have hbel : Below w.heap.size w w1 := (Below.refl _ _).grown hgrow (Nat.le_refl _) (by simp)
  have hsz : w.heap.size ≤ w1.heap.size := by first | exact hgrow.1 | exact hgrow.size | exact Nat.le_of_lt hgrow.1
  clear hgrow hown
  go_wp2_with fail
  refine wp_loop_rounds 1 ?_
  rw [rounds_succ]
  go_wp2
  go_ret
  exact ⟨rfl, hbel, hsz⟩

set_option maxRecDepth 100000 in
set_option maxHeartbeats 400000 in
theorem law5_empty (x : Addr) (cap : Nat) (w : World) :
    Calls Try.prog 5 #[.slice (some x) 0 cap] w fun e w' => e = .returned (.bool true) ∧ Below w.heap.size w w' := by
  have hnil := nil_eql29
  have hmk := make0
  have hmm := @run_makeMap Try.prog
  go_enter Try.func5, Try.ntmps5
  go_wp2_with (go_at_call 13; refine (bytes13_empty x cap _).mono ?_; rintro e w' ⟨rfl, rfl⟩)
  refine wp_loop_rounds 1 ?_
  rw [rounds_succ]
  go_wp2_with fail
  refine (clone14_empty x cap _).mono ?_
  rintro e w1 ⟨rfl, hb, hs⟩
  have HB1 : Hid (Below w.heap.size w w1 ∧ w.heap.size ≤ w1.heap.size) := ⟨hb, hs⟩
  clear hb hs
  go_wp2_with (go_at_call 15; refine (new15 w1.heap.size _ (Nat.le_refl _)).mono ?_; rintro e w' ⟨rfl, rfl⟩)
  have HI : Hid (Index w1.heap.size ((((w1.alloc (.map #[] 0)).alloc (.cells #[.slice none 0 0, .map (some w1.heap.size), .int .i64 0] 56)).alloc (.map #[] 0)).alloc (.cells #[] 3)) (w1.heap.size + 1) w1.heap.size []) := by
    refine (Index.start w1.heap.size w1 (Nat.le_refl _)).same fun k hk _ _ => ?_
    rw [Below.heap_alloc _ _ k (by simp at hk ⊢; omega), Below.heap_alloc _ _ k hk]
  have HB : Hid (Below w.heap.size w ((((w1.alloc (.map #[] 0)).alloc (.cells #[.slice none 0 0, .map (some w1.heap.size), .int .i64 0] 56)).alloc (.map #[] 0)).alloc (.cells #[] 3))) := by
    obtain ⟨h1, h2⟩ := HB1.out
    exact ((((h1.alloc h2 _).alloc (by simp; omega) _).alloc (by simp; omega) _).alloc (by simp; omega) _)
  generalize (((w1.alloc (.map #[] 0)).alloc (.cells #[.slice none 0 0, .map (some w1.heap.size), .int .i64 0] 56)).alloc (.map #[] 0)).alloc (.cells #[] 3) = w4 at HI HB ⊢
  obtain ⟨bv, T, dn, D, hN, hF⟩ := HI.out
  have hsz : Maps.size D = 0 := hF.size
  have hdn : dn = 0 := hF.far
  have HN : Hid (Nix w1.heap.size w4 (w1.heap.size + 1) w1.heap.size bv T dn 0 D) := hN
  clear hN hF HI
  subst hdn
  refine wp_loop_rounds 1 ?_
  rw [rounds_succ]
  go_wp2
  refine wp_loop_rounds 1 ?_
  rw [rounds_succ]
  go_wp2_with (first | (go_at_call 21; refine (nlen21 HN.out).mono ?_; rintro e w' ⟨rfl, rfl⟩; rw [hsz]) | (go_at_call 22; refine (decs22 HN.out).mono ?_; rintro e w' ⟨rfl, rfl⟩))
  go_ret
  exact ⟨rfl, HB.out⟩

/-- THE WALK, AT EVERY NON-NIL SLICE OF STRINGS. -/
theorem law5_all (x : Addr) (len cap : Nat) (ss : List ByteArray) (w : World) (hm : len ≤ maxLen) (hl : len ≤ ss.length) (hz : ∀ s ∈ ss, s.size ≤ maxLen)
    (hc : ∀ i, i < ss.length → w.cell? (x.add i) = some (.string (ss.getD i ByteArray.empty))) :
    Calls Try.prog 5 #[.slice (some x) len cap] w fun e w' => e = .returned (.bool true) ∧ Below w.heap.size w w' := by
  by_cases h0 : len = 0
  · subst h0
    exact law5_empty x cap w
  · obtain ⟨b, off, spot⟩ := x
    obtain rfl : spot = none := by simpa [Addr.add] using World.cell?_spot (hc 0 (by omega))
    have hc' : ∀ j, j < len → w.cell? ⟨b, off + j, none⟩ = some (.string (nth9 (ss.take len) j)) := fun j hj => by
      have h := hc j (by omega)
      rw [Addr.add_lit] at h
      rw [h]
      unfold nth9
      rw [List.getD_eq_getElem?_getD, List.getD_eq_getElem?_getD, List.getElem?_take, if_pos hj]
    have hl' : (ss.take len).length = len := by simp; omega
    have hz' : ∀ s ∈ ss.take len, s.size ≤ maxLen := fun s hs => hz s (List.mem_of_mem_take hs)
    by_cases h1 : len ≤ 65536
    · exact law5_row b off len cap _ w h1 hl' hz' hc'
    · by_cases h2 : len ≤ 1048576
      · refine (law5_many b off len cap _ w h2 (by omega) hl' hz' hc').mono ?_
        rintro e w' ⟨rfl, rfl⟩
        exact ⟨rfl, Below.refl _ _⟩
      · refine (law5_big _ len cap w hm (by omega)).mono ?_
        rintro e w' ⟨rfl, rfl⟩
        exact ⟨rfl, Below.refl _ _⟩
end Go.Proofs.Qxb6600487a
