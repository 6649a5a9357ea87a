import Derived.Test.Qxb6604037aSkip
namespace Go.Proofs.Qxb6604037a
open Go.RowKit
set_option linter.unusedVariables false

theorem nil_eql (w : World) (a : Option Addr) (n c : Nat) : (binOp .eql 22 (.slice a n c) (.slice none 0 0)).run Try.prog w = .ok (.bool a.isNone) w :=
  Lib.run_eql_slice_nil (P := Try.prog) w 22 5 a n c 0 0 Try.underlying22

set_option maxHeartbeats 400000 in
theorem copy_nil (w : World) : Calls Try.prog 7 #[.slice none 0 0] w fun e w' => e = .returned (.slice none 0 0) ∧ w = w' := by
  have hnil := nil_eql
  go_enter Try.func7, Try.ntmps7
  go_wp2
  go_ret
  exact ⟨rfl, rfl⟩

theorem copied {w1 w' : World} {g n : Nat} {cur : Array Value} {xs : List Int} (hcur : cur.size = n) (hx : xs.length = n)
    (h : w'.heap[g]? = some (.cells (splice cur.toList 0 (xs.map (Value.int .u8))).toArray 5 (0, 0))) : ∀ j, j < n → w'.cell? ⟨g, j, none⟩ = some (.int .u8 (xs.getD j 0)) := by
  intro j hj
  have e : splice cur.toList 0 (xs.map (Value.int .u8)) = xs.map (Value.int .u8) := by
    unfold splice
    rw [List.drop_eq_nil_of_le (by simp; omega)]
    simp
  rw [e] at h
  rw [cell_of_row w' g j _ 5 (0, 0) h]
  simp [List.getElem?_eq_getElem (show j < xs.length by omega), List.getD_eq_getElem?_getD]

set_option maxHeartbeats 400000 in
theorem copy_some (x : Addr) (n cap : Nat) (xs : List Int) (w : World) (hn : n ≤ 2000000) (hx : xs.length = n)
    (hc : ∀ j u, (xs.map (Value.int .u8))[j]? = some u → w.cell? (x.add j) = some u) :
    Calls Try.prog 7 #[.slice (some x) n cap] w fun e w' => e = .returned (.slice (some ⟨w.heap.size, 0, none⟩) n n) ∧ Below w.heap.size w w' ∧ (∀ j, j < n → w'.cell? ⟨w.heap.size, j, none⟩ = some (.int .u8 (xs.getD j 0))) := by
  obtain ⟨i0, hi, hz0, hz1, hz2⟩ := info_parts Try.info5
  have hnil := nil_eql
  go_enter Try.func7, Try.ntmps7
  go_wp2_with (at_make; refine wpList_make_full _ rfl _ _ 22 rfl w.heap.size 5 i0 (.int .u8 0) 1 Try.underlying22 hi hz0 hz1 _ _ _ _ n rfl rfl rfl rfl (by rw [hz2]; omega) (by unfold maxLen; omega) (Nat.le_refl _) ?_)
  intro w1 hown hgrow
  obtain ⟨cur, hcur, hg⟩ : ∃ cur : Array Value, cur.size = n ∧ w1.heap[w.heap.size]? = some (.cells cur.toList.toArray 5 (0, 0)) := by
    rcases hown.2 with ⟨h, _⟩ | ⟨g, cp, cur, h, _, h3, _, _, h4, _⟩
    · simp at h
    · simp at h
      obtain ⟨rfl, rfl⟩ := h
      exact ⟨cur, by omega, by simpa using h3⟩
  have hbel : Below w.heap.size w w1 := (Below.refl _ _).grown hgrow (Nat.le_refl _) (by simp)
  have HG : Hid (w1.heap[w.heap.size]? = some (.cells cur.toList.toArray 5 (0, 0))) := hg
  have HX : Hid (xs.length = n) := hx
  clear hg hown hx
  go_wp2_with (refine wpList_copy_splice rfl (.tmp 9) (.tmp 10) 22 22 rfl 5 Try.underlying22 (by rw [hi]; simp [hz1]) _ _ _ _ _ _ rfl rfl w.heap.size 0 cur.toList 5 HG (xs.map (Value.int .u8)) (by simp [HX.out]) (fun _ => ⟨rfl, x, rfl, fun j u hu => hgrow.cell (hc j u hu) (by simp)⟩) (by simp [HX.out, hcur]) (ints_oneCell _ _) w.heap.size w hbel (Nat.le_refl _) ?_)
  intro w2 H2 hb2
  go_wp2
  go_ret
  exact ⟨rfl, hb2, copied (w1 := w1) hcur HX.out H2.out⟩

set_option maxHeartbeats 400000 in
theorem bytes6_ok (a : Option Addr) (n cap : Nat) (i : Int) (w : World) (h : n ≤ 1048576) :
    Calls Try.prog 6 #[.slice a n cap, .int .i64 i] w fun e w' => e = .returned (.bool true) ∧ w = w' := by
  go_enter Try.func6, Try.ntmps6
  go_wp2
  go_ret
  exact ⟨rfl, rfl⟩

set_option maxHeartbeats 400000 in
theorem bytes6_no (a : Option Addr) (n cap : Nat) (i : Int) (w : World) (h : 1048576 < n) (hm : n ≤ maxLen) :
    Calls Try.prog 6 #[.slice a n cap, .int .i64 i] w fun e w' => e = .returned (.bool false) ∧ w = w' := by
  unfold maxLen at hm
  go_enter Try.func6, Try.ntmps6
  go_wp2
  go_ret
  exact ⟨rfl, rfl⟩
end Go.Proofs.Qxb6604037a
