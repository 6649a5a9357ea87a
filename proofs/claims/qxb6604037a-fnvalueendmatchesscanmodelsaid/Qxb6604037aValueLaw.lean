import Derived.Test.Qxb6604037aValue
namespace Go.Proofs.Qxb6604037a
open Go.RowKit Plain
set_option linter.unusedVariables false

set_option maxHeartbeats 400000 in
theorem model_past (a : Option Addr) (n cap : Nat) (i : Nat) (w : World) (hn : n ≤ 2000000) (hi : n ≤ i) :
    Calls Try.prog 12 #[.slice a n cap, .int .i64 i] w fun e w' => e = .returned (.int .i64 n) ∧ w = w' := by
  go_enter Try.func12, Try.ntmps12
  go_wp2
  go_ret
  exact ⟨rfl, rfl⟩

set_option maxHeartbeats 400000 in
theorem model_row (g n cap : Nat) (X : Nat → Int) (i : Nat) (w : World) (hn : n ≤ 2000000)
    (hc : ∀ j, j < n → w.cell? ⟨g, j, none⟩ = some (.int .u8 (X j))) :
    Calls Try.prog 12 #[.slice (some ⟨g, 0, none⟩) n cap, .int .i64 i] w fun e w' => e = .returned (.int .i64 (vend X n i)) ∧ w = w' := by
  unfold vend
  by_cases h : n ≤ i
  · rw [if_pos h]; exact model_past _ n cap i w hn h
  rw [if_neg h]
  have HC : Hid (∀ j, j < n → w.cell? ⟨g, j, none⟩ = some (.int .u8 (X j))) := hc
  have hci := hc i (by omega)
  clear hc
  have d1 : decide (n ≤ i) = false := by simp; omega
  have d2 : decide ((n : Int) ≤ (i : Int)) = false := by simp; omega
  cases k : X i == 34
  · cases k' : (X i == 123 || X i == 91)
    · simp only [Bool.false_eq_true, if_false]
      have l1 : (X i == 123) = false := (Bool.or_eq_false_iff.1 k').1
      have l2 : (X i == 91) = false := (Bool.or_eq_false_iff.1 k').2
      clear k'
      generalize hS : dlAt X n i = S
      have HS : Hid (dlAt X n i = S) := hS
      clear hS
      go_enter Try.func12, Try.ntmps12
      go_wp2
      clear d1 d2 hci l1 l2 k
      go_loop [6] (fun q => ∃ p : Nat, q = .int .i64 p ∧ p ≤ n ∧ Hid (dlAt X n p = S)) (fun q => n - (intOf q).toNat)
      case atStart => exact ⟨i, rfl, by omega, HS⟩
      case round =>
        obtain ⟨p, rfl, hp, HP⟩ := hrel
        clear HS
        by_cases hlt : p < n
        · have hcp := HC.out p hlt
          cases hs : dl (X p)
          · have HF : Hid (dlAt X n (p + 1) = S) := by show _ = _; rw [← HP.out, dl_miss hlt hs]
            clear HP
            go_wp2_with (go_at_call 18; refine (delim_any _ _).mono ?_; rintro e w' ⟨rfl, rfl⟩; rw [hs])
            go_round
            case rel => first | exact ⟨p + 1, by go_num, by omega, HF⟩ | (refine ⟨trivial, ?_⟩; (repeat apply Exists.intro); exact ⟨⟨p + 1, by go_num, by omega, HF⟩, rfl⟩)
            case measure => simp [intOf]; omega
          · have HF : Hid (p = S) := by show _ = _; rw [← HP.out, dl_hit hlt hs]
            clear HP
            go_wp2_with (go_at_call 18; refine (delim_any _ _).mono ?_; rintro e w' ⟨rfl, rfl⟩; rw [hs])
            go_ret
            exact ⟨ret_int (by rw [← HF.out]), rfl⟩
        · obtain rfl : p = n := by omega
          have HF : Hid (p = S) := by show _ = _; rw [← HP.out, dl_end (Nat.le_refl _)]
          clear HP
          go_wp2
          go_ret
          exact ⟨ret_int (by rw [← HF.out]), rfl⟩
    · simp only [Bool.false_eq_true, if_false, if_true]
      have hpart : ((X i == 123) = true) ∨ ((X i == 123) = false ∧ (X i == 91) = true) := by
        cases l : X i == 123
        · rw [l] at k'
          exact Or.inr ⟨rfl, by simpa using k'⟩
        · exact Or.inl rfl
      clear k'
      rcases hpart with l1 | ⟨l1, l2⟩
      all_goals
        go_enter Try.func12, Try.ntmps12
        go_wp2_with fail
        refine (bracket_row g n cap X i _ hn (by omega) HC.out).mono ?_
        rintro e w' ⟨rfl, rfl⟩
        go_wp2
        go_ret
        exact ⟨rfl, rfl⟩
  · simp only [if_true]
    go_enter Try.func12, Try.ntmps12
    go_wp2_with fail
    refine (quote_row g n cap X (i + 1) _ hn (by omega) HC.out).mono ?_
    rintro e w' ⟨rfl, rfl⟩
    go_wp2
    go_ret
    exact ⟨rfl, rfl⟩

set_option maxHeartbeats 400000 in
theorem zve_row (g n cap : Nat) (X : Nat → Int) (i : Nat) (w : World) (hn : n ≤ 2000000)
    (hc : ∀ j, j < n → w.cell? ⟨g, j, none⟩ = some (.int .u8 (X j))) :
    Calls Try.prog 11 #[.slice (some ⟨g, 0, none⟩) n cap, .int .i64 i] w fun e w' => e = .returned (.int .i64 (vend X n i)) ∧ w = w' := by
  go_enter Try.func11, Try.ntmps11
  go_wp2_with fail
  refine (ve_row g n cap X i _ hn hc).mono ?_
  rintro e w' ⟨rfl, rfl⟩
  go_wp2
  go_ret
  exact ⟨rfl, rfl⟩

set_option maxHeartbeats 400000 in
theorem zve_nil (i : Nat) (w : World) :
    Calls Try.prog 11 #[.slice none 0 0, .int .i64 i] w fun e w' => e = .returned (.int .i64 0) ∧ w = w' := by
  go_enter Try.func11, Try.ntmps11
  go_wp2_with fail
  refine (ve_past none 0 0 i _ (by omega) (by omega)).mono ?_
  rintro e w' ⟨rfl, rfl⟩
  go_wp2
  go_ret
  exact ⟨rfl, rfl⟩

set_option maxHeartbeats 400000 in
theorem bytes10_ok (a : Option Addr) (n cap : Nat) (i : Int) (w : World) (h : n ≤ 1048576) :
    Calls Try.prog 10 #[.slice a n cap, .int .i64 i] w fun e w' => e = .returned (.bool true) ∧ w = w' := by
  go_enter Try.func10, Try.ntmps10
  go_wp2
  go_ret
  exact ⟨rfl, rfl⟩

set_option maxHeartbeats 400000 in
theorem vlaw_early (a : Option Addr) (n cap : Nat) (i : Int) (w : World) (hm : n ≤ maxLen) (h : 1048576 < n ∨ i < 0) :
    Calls Try.prog 4 #[.slice a n cap, .int .i64 i] w fun e w' => e = .returned (.bool true) ∧ w = w' := by
  unfold maxLen at hm
  by_cases hb : 1048576 < n
  · go_enter Try.func4, Try.ntmps4
    go_wp2
    go_ret
    exact ⟨rfl, rfl⟩
  · have hi : i < 0 := by omega
    go_enter Try.func4, Try.ntmps4
    go_wp2
    go_ret
    exact ⟨rfl, rfl⟩

set_option maxHeartbeats 400000 in
theorem vlaw_nil (i : Nat) (w : World) :
    Calls Try.prog 4 #[.slice none 0 0, .int .i64 i] w fun e w' => e = .returned (.bool true) ∧ w = w' := by
  go_enter Try.func4, Try.ntmps4
  go_wp2_with (first | (go_at_call 10; refine (bytes10_ok _ _ _ _ _ (by omega)).mono ?_; rintro e w' ⟨rfl, rfl⟩) | (go_at_call 7; refine (copy_nil _).mono ?_; rintro e w' ⟨rfl, rfl⟩) | (go_at_call 11; refine (zve_nil _ _).mono ?_; rintro e w' ⟨rfl, rfl⟩) | (go_at_call 12; refine (model_past _ _ _ _ _ (by omega) (by omega)).mono ?_; rintro e w' ⟨rfl, rfl⟩))
  go_ret
  exact ⟨rfl, rfl⟩

set_option maxHeartbeats 400000 in
theorem vlaw_row (x : Addr) (n cap : Nat) (xs : List Int) (i : Nat) (w : World) (hn : n ≤ 1048576) (hx : xs.length = n)
    (hc : ∀ j u, (xs.map (Value.int .u8))[j]? = some u → w.cell? (x.add j) = some u) :
    Calls Try.prog 4 #[.slice (some x) n cap, .int .i64 i] w fun e w' => e = .returned (.bool true) ∧ Below w.heap.size w w' := by
  go_enter Try.func4, Try.ntmps4
  go_wp2_with (first | (go_at_call 10; refine (bytes10_ok _ _ _ _ _ (by omega)).mono ?_; rintro e w' ⟨rfl, rfl⟩))
  refine (copy_some x n cap xs _ (by omega) hx hc).mono ?_
  rintro e w1 ⟨rfl, hb, hcell⟩
  clear hc
  have hc := hcell
  clear hcell
  generalize hg : w.heap.size = g
  obtain ⟨X, HX⟩ : ∃ X : Nat → Int, Hid (X = fun j => xs.getD j 0) := ⟨_, rfl⟩
  have HC : Hid (∀ j, j < n → w1.cell? ⟨g, j, none⟩ = some (.int .u8 (X j))) := fun j hj => by rw [HX.out, ← hg]; exact hc j hj
  have HB : Hid (Below g w w1) := hg ▸ hb
  have HG : Hid (w.heap.size = g) := hg
  clear hc hb hg hx HX
  go_wp2_with fail
  refine (zve_row g n n X i _ (by omega) HC.out).mono ?_
  rintro e w' ⟨rfl, rfl⟩
  generalize hS : vend X n i = S
  have HS : Hid (vend X n i = S) := hS
  clear hS
  go_wp2_with fail
  refine (model_row g n n X i _ (by omega) HC.out).mono ?_
  rintro e w' ⟨rfl, rfl⟩
  rw [HS.out]
  go_wp2
  go_ret
  exact ⟨rfl, HG.out ▸ HB.out⟩
end Go.Proofs.Qxb6604037a
