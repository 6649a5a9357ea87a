import Derived.Test.Qxb6604037aCopy
namespace Go.Proofs.Qxb6604037a
open Go.RowKit
set_option linter.unusedVariables false

set_option maxHeartbeats 400000 in
theorem zskip_row (g n cap : Nat) (X : Nat → Int) (i : Nat) (w : World) (hn : n ≤ 2000000) (hi : i ≤ 9223372036854775807)
    (hc : ∀ j, j < n → w.cell? ⟨g, j, none⟩ = some (.int .u8 (X j))) :
    Calls Try.prog 8 #[.slice (some ⟨g, 0, none⟩) n cap, .int .i64 i] w fun e w' => (∃ r : Nat, e = .returned (.int .i64 r) ∧ i ≤ r ∧ (n ≤ i → r = i) ∧ (i < n → r ≤ n) ∧ (∀ j, i ≤ j → j < r → sp (X j) = true) ∧ (r < n → sp (X r) = false)) ∧ w = w' := by
  go_enter Try.func8, Try.ntmps8
  go_wp2_with fail
  refine (skip_row g n cap X i _ hn hi hc).mono ?_
  rintro e w' ⟨⟨r, rfl, h⟩, rfl⟩
  have H := h
  have HH : Hid (i ≤ r ∧ (n ≤ i → r = i) ∧ (i < n → r ≤ n) ∧ (∀ j, i ≤ j → j < r → sp (X j) = true) ∧ (r < n → sp (X r) = false)) := h
  clear H h
  go_wp2
  go_ret
  exact ⟨⟨r, rfl, HH.out⟩, rfl⟩

set_option maxHeartbeats 400000 in
theorem zskip_nil (i : Nat) (w : World) (hi : i ≤ 9223372036854775807) :
    Calls Try.prog 8 #[.slice none 0 0, .int .i64 i] w fun e w' => e = .returned (.int .i64 i) ∧ w = w' := by
  go_enter Try.func8, Try.ntmps8
  go_wp2
  refine wp_loop_rounds 1 ?_
  rw [rounds_succ]
  go_wp2
  go_ret
  exact ⟨rfl, rfl⟩

set_option maxHeartbeats 400000 in
theorem law_early (a : Option Addr) (n cap : Nat) (i : Int) (w : World) (hm : n ≤ maxLen) (h : 1048576 < n ∨ i < 0) :
    Calls Try.prog 3 #[.slice a n cap, .int .i64 i] w fun e w' => e = .returned (.bool true) ∧ w = w' := by
  unfold maxLen at hm
  by_cases hb : 1048576 < n
  · go_enter Try.func3, Try.ntmps3
    go_wp2
    go_ret
    exact ⟨rfl, rfl⟩
  · have hi : i < 0 := by omega
    go_enter Try.func3, Try.ntmps3
    go_wp2
    go_ret
    exact ⟨rfl, rfl⟩

set_option maxHeartbeats 400000 in
theorem law_nil (i : Nat) (w : World) (hi : i ≤ 9223372036854775807) :
    Calls Try.prog 3 #[.slice none 0 0, .int .i64 i] w fun e w' => e = .returned (.bool true) ∧ w = w' := by
  go_enter Try.func3, Try.ntmps3
  go_wp2_with (first | (go_at_call 6; refine (bytes6_ok _ _ _ _ _ (by omega)).mono ?_; rintro e w' ⟨rfl, rfl⟩) | (go_at_call 7; refine (copy_nil _).mono ?_; rintro e w' ⟨rfl, rfl⟩) | (go_at_call 8; refine (zskip_nil _ _ hi).mono ?_; rintro e w' ⟨rfl, rfl⟩))
  go_ret
  exact ⟨rfl, rfl⟩

set_option maxHeartbeats 400000 in
theorem law_row (x : Addr) (n cap : Nat) (xs : List Int) (i : Nat) (w : World) (hn : n ≤ 1048576) (hx : xs.length = n) (hi : i ≤ 9223372036854775807)
    (hc : ∀ j u, (xs.map (Value.int .u8))[j]? = some u → w.cell? (x.add j) = some u) :
    Calls Try.prog 3 #[.slice (some x) n cap, .int .i64 i] w fun e w' => e = .returned (.bool true) ∧ Below w.heap.size w w' := by
  go_enter Try.func3, Try.ntmps3
  go_wp2_with (first | (go_at_call 6; refine (bytes6_ok _ _ _ _ _ (by omega)).mono ?_; rintro e w' ⟨rfl, rfl⟩))
  refine (copy_some x n cap xs _ (by omega) hx hc).mono ?_
  rintro e w1 ⟨rfl, hb, hcell⟩
  clear hc
  have hc := hcell
  clear hcell
  generalize hg : w.heap.size = g
  obtain ⟨X, HX⟩ : ∃ X : Nat → Int, Hid (X = fun j => xs.getD j 0) := ⟨_, rfl⟩
  have hc' : ∀ j, j < n → w1.cell? ⟨g, j, none⟩ = some (.int .u8 (X j)) := fun j hj => by rw [HX.out, ← hg]; exact hc j hj
  have HB : Hid (Below g w w1) := hg ▸ hb
  have HG : Hid (w.heap.size = g) := hg
  clear hc hb hg hx HX
  go_wp2_with fail
  refine (zskip_row g n n X i _ (by omega) hi hc').mono ?_
  rintro e w' ⟨⟨r, rfl, h1, h2, h3, h4, h5⟩, rfl⟩
  by_cases hin : n ≤ i
  · obtain rfl := h2 hin
    clear h2 h3 h4 h5
    go_wp2
    go_ret
    exact ⟨rfl, HG.out ▸ HB.out⟩
  · have hrn := h3 (by omega)
    have H4 : Hid (∀ j, i ≤ j → j < r → sp (X j) = true) := h4
    have H5 : Hid (r < n → sp (X r) = false) := h5
    clear h2 h3 h4 h5
    have d1 : decide ((r : Int) < (i : Int)) = false := by simp; omega
    have d2 : decide ((n : Int) < (r : Int)) = false := by simp; omega
    have d3 : decide (r < i) = false := by simp; omega
    have d4 : decide (n < r) = false := by simp; omega
    go_wp2_with fail
    clear d1 d2 d3 d4
    go_loop [7] (fun t => ∃ j : Nat, i ≤ j ∧ j ≤ r ∧ t = .int .i64 j) (fun t => r - (intOf t).toNat)
    case atStart => exact ⟨i, Nat.le_refl _, h1, rfl⟩
    case round =>
      obtain ⟨j, hj1, hj2, rfl⟩ := hrel
      by_cases hjr : j < r
      · have hcj := hc' j (by omega)
        have hsj : sp (X j) = true := H4.out j hj1 hjr
        clear hc'
        go_wp2_with (go_at_call 9; refine (space_any _ _).mono ?_; rintro e w' ⟨rfl, rfl⟩; rw [hsj])
        go_round
        case rel => first | exact ⟨j + 1, by omega, by omega, by go_num⟩ | (refine ⟨trivial, ?_⟩; (repeat apply Exists.intro); exact ⟨⟨j + 1, by omega, by omega, by go_num⟩, rfl⟩)
        case measure => simp [intOf]; omega
      · obtain rfl : j = r := by omega
        by_cases hjn : j < n
        · have hcj := hc' j hjn
          have hsj : sp (X j) = false := H5.out hjn
          clear hc'
          go_wp2_with (go_at_call 9; refine (space_any _ _).mono ?_; rintro e w' ⟨rfl, rfl⟩; rw [hsj])
          go_ret
          exact ⟨rfl, HG.out ▸ HB.out⟩
        · obtain rfl : j = n := by omega
          go_wp2_with fail
          go_ret
          exact ⟨rfl, HG.out ▸ HB.out⟩
end Go.Proofs.Qxb6604037a
