import Derived.Test.Qxb6604037aBracket
namespace Go.Proofs.Qxb6604037a
open Go.RowKit Plain
set_option linter.unusedVariables false

/-- 'valueEnd' at a quote. -/
theorem ve_str (g n cap : Nat) (X : Nat → Int) (i : Nat) (w : World) (hn : n ≤ 2000000) (hi : i < n) (k0 : (X i == 34) = true)
    (hc : ∀ j, j < n → w.cell? ⟨g, j, none⟩ = some (.int .u8 (X j))) :
    Calls Try.prog 15 #[.slice (some ⟨g, 0, none⟩) n cap, .int .i64 i] w fun e w' => e = .returned (.int .i64 (st X n (i + 1) false)) ∧ w = w' := by
  generalize hS : st X n (i + 1) false = S
  have HS : Hid (st X n (i + 1) false = S) := hS
  clear hS
  have hci := hc i hi
  go_enter Try.func15, Try.ntmps15
  go_wp2
  clear hci
  go_loop [1] (fun q => ∃ p : Nat, q = .int .i64 p ∧ p ≤ n + 1 ∧ Hid (st X n p false = S)) (fun q => n + 1 - (intOf q).toNat)
  case atStart => exact ⟨i + 1, by go_num, by omega, HS⟩
  case round =>
    obtain ⟨p, rfl, hp, HP⟩ := hrel
    clear HS
    by_cases hlt : p < n
    · have hcp := hc p hlt
      clear hc
      cases k1 : X p == 34
      · have k1' : (X p != 34) = true := by simp [bne, k1]
        cases k2 : X p == 92
        · have HF : Hid (st X n (p + 1) false = S) := by show _ = _; rw [← st_other hlt k1 k2]; exact HP
          clear HP
          go_wp2
          go_round
          case rel => exact ⟨p + 1, by go_num, by omega, HF⟩
          case measure => simp [intOf]; omega
        · have HF : Hid (st X n (p + 2) false = S) := by
            show _ = _
            rw [← HP.out, st_back hlt k1 k2]
            by_cases h : p + 1 < n
            · rw [st_esc h]
            · rw [st_end _ (by omega), st_end _ (by omega)]
          clear HP
          go_wp2
          go_round
          case rel => exact ⟨p + 2, by go_num, by omega, HF⟩
          case measure => simp [intOf]; omega
      · have k1' : (X p != 34) = false := by simp [bne, k1]
        have HF : Hid (p + 1 = S) := by show _ = _; rw [← st_quote hlt k1]; exact HP
        clear HP
        go_wp2
        go_ret
        exact ⟨ret_int (by rw [← HF.out]; rfl), rfl⟩
    · have HF : Hid (n = S) := by show _ = _; rw [← HP.out, st_end _ (by omega)]
      clear HP
      go_wp2
      go_ret
      exact ⟨ret_int (by rw [← HF.out]), rfl⟩
/-- 'valueEnd' at a bracket. -/
theorem ve_br (g n cap : Nat) (X : Nat → Int) (i : Nat) (w : World) (hn : n ≤ 2000000) (hi : i < n) (k0 : (X i == 34) = false) (k0' : (X i == 123 || X i == 91) = true)
    (hc : ∀ j, j < n → w.cell? ⟨g, j, none⟩ = some (.int .u8 (X j))) :
    Calls Try.prog 15 #[.slice (some ⟨g, 0, none⟩) n cap, .int .i64 i] w fun e w' => e = .returned (.int .i64 (br X n i 0 false false)) ∧ w = w' := by
  generalize hS : br X n i 0 false false = S
  have HS : Hid (br X n i 0 false false = S) := hS
  clear hS
  have hci := hc i hi
  have HK : Hid ((X i == 123 || X i == 91) = true) := k0'
  have HK0 : Hid ((X i == 34) = false) := k0
  have hpart : ((X i == 123) = true) ∨ ((X i == 123) = false ∧ (X i == 91) = true) := by
    cases l : X i == 123
    · rw [l] at k0'
      exact Or.inr ⟨rfl, by simpa using k0'⟩
    · exact Or.inl rfl
  clear k0'
  have HC : Hid (∀ j, j < n → w.cell? ⟨g, j, none⟩ = some (.int .u8 (X j))) := hc
  clear hc
  have d1 : decide (n ≤ i) = false := by simp; omega
  have d2 : decide ((n : Int) ≤ (i : Int)) = false := by simp; omega
  rcases hpart with l1 | ⟨l1, l2⟩
  all_goals
    go_enter Try.func15, Try.ntmps15
    go_wp2
    clear d1 d2
    go_loop [1, 5] (fun q t => ∃ (p : Nat) (d : Int), q = .int .i64 p ∧ t = .int .i64 d ∧ p ≤ n ∧ d ≤ p ∧ 0 ≤ d ∧ Hid (p = i ∨ 1 ≤ d) ∧ Hid (br X n p d false false = S)) (fun q _ => n - (intOf q).toNat)
    case atStart => exact ⟨i, 0, rfl, rfl, by omega, by omega, by omega, Or.inl rfl, HS⟩
    case round =>
      obtain ⟨p, d, rfl, rfl, hp, hd1, hd0, HD, HP⟩ := hrel
      clear HS hci
      try clear l2
      clear l1
      clear k0
      by_cases hlt : p < n
      · have hcp := HC.out p hlt
        have HI : Hid ((X p == 123 || X p == 91) = false → 1 ≤ d) := fun h => by
          rcases HD.out with e | e
          · rw [e, HK.out] at h; simp at h
          · exact e
        have HJ : Hid ((X p == 34) = true → 1 ≤ d) := fun h => by
          rcases HD.out with e | e
          · rw [e, HK0.out] at h; simp at h
          · exact e
        clear HD
        cases k1 : X p == 34
        · cases k2 : (X p == 123 || X p == 91)
          · have hd := HI.out k2
            clear HI HJ
            have m1 : (X p == 123) = false := (Bool.or_eq_false_iff.1 k2).1
            have m2 : (X p == 91) = false := (Bool.or_eq_false_iff.1 k2).2
            cases k3 : (X p == 125 || X p == 93)
            · have HF : Hid (br X n (p + 1) d false false = S) := by show _ = _; rw [← br_plain _ hlt k1 k2 k3]; exact HP
              clear HP k2
              have m3 : (X p == 125) = false := (Bool.or_eq_false_iff.1 k3).1
              have m4 : (X p == 93) = false := (Bool.or_eq_false_iff.1 k3).2
              have m5 : (d == 0) = false := by simp; omega
              clear k3
              go_wp2
              go_round
              case rel => exact ⟨p + 1, d, by go_num, rfl, by omega, by omega, by omega, Or.inr hd, HF⟩
              case measure => simp [intOf]; omega
            · cases k4 : (d - 1 == 0)
              · have HF : Hid (br X n (p + 1) (d - 1) false false = S) := by show _ = _; rw [← br_close _ hlt k1 k2 k3 k4]; exact HP
                clear HP k2
                have hd2 : 2 ≤ d := by have : ¬ (d - 1 = 0) := by simpa using k4
                                       omega
                cases m3 : X p == 125
                · have m4 : (X p == 93) = true := by rw [m3] at k3; simpa using k3
                  clear k3
                  go_wp2
                  go_round
                  case rel => exact ⟨p + 1, d - 1, by go_num, rfl, by omega, by omega, by omega, Or.inr (by omega), HF⟩
                  case measure => simp [intOf]; omega
                · clear k3
                  go_wp2
                  go_round
                  case rel => exact ⟨p + 1, d - 1, by go_num, rfl, by omega, by omega, by omega, Or.inr (by omega), HF⟩
                  case measure => simp [intOf]; omega
              · have HF : Hid (p + 1 = S) := by show _ = _; rw [← br_last _ hlt k1 k2 k3 k4]; exact HP
                clear HP k2
                cases m3 : X p == 125
                · have m4 : (X p == 93) = true := by rw [m3] at k3; simpa using k3
                  clear k3
                  go_wp2
                  go_ret
                  exact ⟨ret_int (by rw [← HF.out]; rfl), rfl⟩
                · clear k3
                  go_wp2
                  go_ret
                  exact ⟨ret_int (by rw [← HF.out]; rfl), rfl⟩
          · have HF : Hid (br X n (p + 1) (d + 1) false false = S) := by show _ = _; rw [← br_open _ hlt k1 k2]; exact HP
            clear HP HI HJ
            have m5 : (d + 1 == 0) = false := by simp; omega
            cases m1 : X p == 123
            · have m2 : (X p == 91) = true := by rw [m1] at k2; simpa using k2
              clear k2
              go_wp2
              go_round
              case rel => exact ⟨p + 1, d + 1, by go_num, rfl, by omega, by omega, by omega, Or.inr (by omega), HF⟩
              case measure => simp [intOf]; omega
            · clear k2
              go_wp2
              go_round
              case rel => exact ⟨p + 1, d + 1, by go_num, rfl, by omega, by omega, by omega, Or.inr (by omega), HF⟩
              case measure => simp [intOf]; omega
        · have hd := HJ.out k1
          have HF : Hid (br X n (st X n (p + 1) false) d false false = S) := by show _ = _; rw [← br_str, ← br_quote _ hlt k1]; exact HP
          have hle := st_le (X := X) (n := n) (p := p + 1) false (by omega)
          clear HP HI HJ
          go_wp2_with fail
          refine (ve_str g n cap X p _ hn hlt k1 HC.out).mono ?_
          rintro e w' ⟨rfl, rfl⟩
          generalize st X n (p + 1) false = r at *
          go_wp2
          go_round
          case rel => first | exact ⟨r, d, rfl, rfl, by omega, by omega, by omega, Or.inr hd, HF⟩ | (refine ⟨trivial, ?_⟩; (repeat apply Exists.intro); exact ⟨⟨r, d, rfl, rfl, by omega, by omega, by omega, Or.inr hd, HF⟩, rfl⟩)
          case measure => simp [intOf]; omega
      · obtain rfl : p = n := by omega
        have HF : Hid (p = S) := by show _ = _; rw [← HP.out, br_end _ _ (Nat.le_refl _)]
        clear HP HD
        go_wp2
        go_ret
        exact ⟨ret_int (by rw [← HF.out]), rfl⟩
/-- 'valueEnd' at anything else. -/
theorem ve_lit (g n cap : Nat) (X : Nat → Int) (i : Nat) (w : World) (hn : n ≤ 2000000) (hi : i < n) (k0 : (X i == 34) = false) (k0' : (X i == 123 || X i == 91) = false)
    (hc : ∀ j, j < n → w.cell? ⟨g, j, none⟩ = some (.int .u8 (X j))) :
    Calls Try.prog 15 #[.slice (some ⟨g, 0, none⟩) n cap, .int .i64 i] w fun e w' => e = .returned (.int .i64 (dlAt X n i)) ∧ w = w' := by
  generalize hS : dlAt X n i = S
  have HS : Hid (dlAt X n i = S) := hS
  clear hS
  have hci := hc i hi
  have l1 : (X i == 123) = false := (Bool.or_eq_false_iff.1 k0').1
  have l2 : (X i == 91) = false := (Bool.or_eq_false_iff.1 k0').2
  clear k0'
  have d1 : decide (n ≤ i) = false := by simp; omega
  have d2 : decide ((n : Int) ≤ (i : Int)) = false := by simp; omega
  go_enter Try.func15, Try.ntmps15
  go_wp2
  clear d1 d2 hci l1 l2 k0
  go_loop [1] (fun q => ∃ p : Nat, q = .int .i64 p ∧ p ≤ n ∧ Hid (dlAt X n p = S)) (fun q => n - (intOf q).toNat)
  case atStart => exact ⟨i, rfl, by omega, HS⟩
  case round =>
    obtain ⟨p, rfl, hp, HP⟩ := hrel
    clear HS
    by_cases hlt : p < n
    · have hcp := hc p hlt
      clear hc
      rcases dl_cases (X p) with ⟨hs, h⟩ | ⟨hs, h1, h2, h3, h4, h5, h6, h7⟩
      · have HF : Hid (p = S) := by show _ = _; rw [← HP.out, dl_hit hlt hs]
        clear HP hs
        rcases h with h | ⟨h1, h⟩ | ⟨h1, h2, h⟩ | ⟨h1, h2, h3, h⟩ | ⟨h1, h2, h3, h4, h⟩ | ⟨h1, h2, h3, h4, h5, h⟩ | ⟨h1, h2, h3, h4, h5, h6, h⟩
        all_goals
          go_wp2
          go_ret
          exact ⟨ret_int (by rw [← HF.out]), rfl⟩
      · have HF : Hid (dlAt X n (p + 1) = S) := by show _ = _; rw [← HP.out, dl_miss hlt hs]
        clear HP hs
        go_wp2
        go_round
        case rel => exact ⟨p + 1, by go_num, by omega, HF⟩
        case measure => simp [intOf]; omega
    · obtain rfl : p = n := by omega
      have HF : Hid (p = S) := by show _ = _; rw [← HP.out, dl_end (Nat.le_refl _)]
      clear HP
      go_wp2
      go_ret
      exact ⟨ret_int (by rw [← HF.out]), rfl⟩

set_option maxHeartbeats 400000 in
theorem ve_past (a : Option Addr) (n cap : Nat) (i : Nat) (w : World) (hn : n ≤ 2000000) (hi : n ≤ i) :
    Calls Try.prog 15 #[.slice a n cap, .int .i64 i] w fun e w' => e = .returned (.int .i64 n) ∧ w = w' := by
  go_enter Try.func15, Try.ntmps15
  go_wp2
  go_ret
  exact ⟨rfl, rfl⟩

theorem ve_row (g n cap : Nat) (X : Nat → Int) (i : Nat) (w : World) (hn : n ≤ 2000000)
    (hc : ∀ j, j < n → w.cell? ⟨g, j, none⟩ = some (.int .u8 (X j))) :
    Calls Try.prog 15 #[.slice (some ⟨g, 0, none⟩) n cap, .int .i64 i] w fun e w' => e = .returned (.int .i64 (vend X n i)) ∧ w = w' := by
  unfold vend
  by_cases h : n ≤ i
  · rw [if_pos h]; exact ve_past _ n cap i w hn h
  rw [if_neg h]
  cases k : X i == 34
  · cases k' : (X i == 123 || X i == 91)
    · simp only [Bool.false_eq_true, if_false]; exact ve_lit g n cap X i w hn (by omega) k k' hc
    · simp only [Bool.false_eq_true, if_false, if_true]; exact ve_br g n cap X i w hn (by omega) k k' hc
  · simp only [if_true]; exact ve_str g n cap X i w hn (by omega) k hc
end Go.Proofs.Qxb6604037a
