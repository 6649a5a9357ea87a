import Derived.Test.Qxb6604037aQuote
namespace Go.Proofs.Qxb6604037a
open Go.RowKit Plain
set_option linter.unusedVariables false

/-- 'bracketEnd': the flat automaton. -/
theorem bracket_row (g n cap : Nat) (X : Nat → Int) (i : Nat) (w : World) (hn : n ≤ 2000000) (hi : i ≤ n)
    (hc : ∀ j, j < n → w.cell? ⟨g, j, none⟩ = some (.int .u8 (X j))) :
    Calls Try.prog 17 #[.slice (some ⟨g, 0, none⟩) n cap, .int .i64 i] w fun e w' => e = .returned (.int .i64 (br X n i 0 false false)) ∧ w = w' := by
  generalize hS : br X n i 0 false false = S
  have HS : Hid (br X n i 0 false false = S) := hS
  clear hS
  go_enter Try.func17, Try.ntmps17
  go_wp2
  go_loop [5, 6, 7, 8] (fun t s b q => ∃ (d : Int) (ins : Bool) (bs p : Nat), t = .int .i64 d ∧ s = .bool ins ∧ b = .int .i64 bs ∧ q = .int .i64 p ∧ p ≤ n ∧ bs ≤ p ∧ d ≤ p ∧ -p ≤ d ∧ Hid (br X n p d ins (bs % 2 == 1) = S)) (fun _ _ _ q => n - (intOf q).toNat)
  case atStart => exact ⟨0, false, 0, i, rfl, rfl, rfl, rfl, hi, Nat.zero_le _, by omega, by omega, HS⟩
  case round =>
    obtain ⟨d, ins, bs, p, rfl, rfl, rfl, rfl, hp, hb, hd1, hd2, HP⟩ := hrel
    clear HS
    by_cases hlt : p < n
    · have hcp := hc p hlt
      clear hc
      cases ins
      · -- out of a string
        cases k1 : X p == 34
        · cases k2 : (X p == 123 || X p == 91)
          · cases k3 : (X p == 125 || X p == 93)
            · have HF : Hid (br X n (p + 1) d false (bs % 2 == 1) = S) := by
                show _ = _
                rw [br_esc_out _ false, ← br_plain _ hlt k1 k2 k3]; exact HP
              clear HP
              have l1 : (X p == 123) = false := (Bool.or_eq_false_iff.1 k2).1
              have l2 : (X p == 91) = false := (Bool.or_eq_false_iff.1 k2).2
              have l3 : (X p == 125) = false := (Bool.or_eq_false_iff.1 k3).1
              have l4 : (X p == 93) = false := (Bool.or_eq_false_iff.1 k3).2
              clear k2 k3
              go_wp2
              go_round
              case rel => exact ⟨d, false, bs, p + 1, rfl, rfl, rfl, by go_num, by omega, by omega, by omega, by omega, HF⟩
              case measure => simp [intOf]; omega
            · have HQ := HP
              clear HP
              have l1 : (X p == 123) = false := (Bool.or_eq_false_iff.1 k2).1
              have l2 : (X p == 91) = false := (Bool.or_eq_false_iff.1 k2).2
              cases k4 : (d - 1 == 0)
              · have HF : Hid (br X n (p + 1) (d - 1) false (bs % 2 == 1) = S) := by
                  show _ = _
                  rw [br_esc_out _ false, ← br_close _ hlt k1 k2 k3 k4]; exact HQ
                clear HQ k2
                cases l3 : X p == 125
                · have l4 : (X p == 93) = true := by rw [l3] at k3; simpa using k3
                  clear k3
                  go_wp2
                  go_round
                  case rel => exact ⟨d - 1, false, bs, p + 1, rfl, rfl, rfl, by go_num, by omega, by omega, by omega, by omega, HF⟩
                  case measure => simp [intOf]; omega
                · clear k3
                  go_wp2
                  go_round
                  case rel => exact ⟨d - 1, false, bs, p + 1, rfl, rfl, rfl, by go_num, by omega, by omega, by omega, by omega, HF⟩
                  case measure => simp [intOf]; omega
              · have HF : Hid (p + 1 = S) := by
                  show _ = _
                  rw [← br_last _ hlt k1 k2 k3 k4]; exact HQ
                clear HQ k2
                cases l3 : X p == 125
                · have l4 : (X p == 93) = true := by rw [l3] at k3; simpa using k3
                  clear k3
                  go_wp2
                  go_ret
                  exact ⟨ret_int (by rw [← HF.out]; rfl), rfl⟩
                · clear k3
                  go_wp2
                  go_ret
                  exact ⟨ret_int (by rw [← HF.out]; rfl), rfl⟩
          · have HF : Hid (br X n (p + 1) (d + 1) false (bs % 2 == 1) = S) := by
              show _ = _
              rw [br_esc_out _ false, ← br_open _ hlt k1 k2]; exact HP
            clear HP
            cases l1 : X p == 123
            · have l2 : (X p == 91) = true := by rw [l1] at k2; simpa using k2
              clear k2
              go_wp2
              go_round
              case rel => exact ⟨d + 1, false, bs, p + 1, rfl, rfl, rfl, by go_num, by omega, by omega, by omega, by omega, HF⟩
              case measure => simp [intOf]; omega
            · clear k2
              go_wp2
              go_round
              case rel => exact ⟨d + 1, false, bs, p + 1, rfl, rfl, rfl, by go_num, by omega, by omega, by omega, by omega, HF⟩
              case measure => simp [intOf]; omega
        · have HF : Hid (br X n (p + 1) d true (0 % 2 == 1) = S) := by
            show br X n (p + 1) d true false = S
            rw [← br_quote _ hlt k1]; exact HP
          clear HP
          go_wp2
          go_round
          case rel => exact ⟨d, true, 0, p + 1, rfl, rfl, rfl, by go_num, by omega, by omega, by omega, by omega, HF⟩
          case measure => simp [intOf]; omega
      · -- in a string
        have hpar : (bs % 2 = 0) ∨ (bs % 2 = 1) := by omega
        cases k1 : X p == 34
        · cases k2 : X p == 92
          · have HF : Hid (br X n (p + 1) d true (0 % 2 == 1) = S) := by
              show br X n (p + 1) d true false = S
              have HE := HP.out
              rcases hpar with h | h
              · rw [show (bs % 2 == 1) = false by simp; omega, bi_other hlt k1 k2] at HE; exact HE
              · rw [show (bs % 2 == 1) = true by simp; omega, bi_esc hlt] at HE; exact HE
            clear HP hpar
            go_wp2
            go_round
            case rel => exact ⟨d, true, 0, p + 1, rfl, rfl, rfl, by go_num, by omega, by omega, by omega, by omega, HF⟩
            case measure => simp [intOf]; omega
          · have HF : Hid (br X n (p + 1) d true ((bs + 1) % 2 == 1) = S) := by
              show _ = _
              have HE := HP.out
              rcases hpar with h | h
              · rw [show (bs % 2 == 1) = false by simp; omega, bi_back hlt k1 k2] at HE; rw [show ((bs + 1) % 2 == 1) = true by simp; omega]; exact HE
              · rw [show (bs % 2 == 1) = true by simp; omega, bi_esc hlt] at HE; rw [show ((bs + 1) % 2 == 1) = false by simp; omega]; exact HE
            clear HP hpar
            go_wp2
            go_round
            case rel => exact ⟨d, true, bs + 1, p + 1, rfl, rfl, by go_num, by go_num, by omega, by omega, by omega, by omega, HF⟩
            case measure => simp [intOf]; omega
        · rcases hpar with h | h
          · have hm : ((bs : Int) % 2 == 0) = true := by simp; omega
            have HF : Hid (br X n (p + 1) d false (bs % 2 == 1) = S) := by
              show _ = _
              have HE := HP.out
              rw [show (bs % 2 == 1) = false by simp; omega, bi_quote hlt k1] at HE
              rw [br_esc_out _ false]; exact HE
            clear HP
            go_wp2
            go_round
            case rel => exact ⟨d, false, bs, p + 1, rfl, rfl, rfl, by go_num, by omega, by omega, by omega, by omega, HF⟩
            case measure => simp [intOf]; omega
          · have hm : ((bs : Int) % 2 == 0) = false := by simp; omega
            have k2 : (X p == 92) = false := by have := eq_of_beq k1; rw [this]; rfl
            have HF : Hid (br X n (p + 1) d true (0 % 2 == 1) = S) := by
              show br X n (p + 1) d true false = S
              have HE := HP.out
              rw [show (bs % 2 == 1) = true by simp; omega, bi_esc hlt] at HE; exact HE
            clear HP
            go_wp2
            go_round
            case rel => exact ⟨d, true, 0, p + 1, rfl, rfl, rfl, by go_num, by omega, by omega, by omega, by omega, HF⟩
            case measure => simp [intOf]; omega
    · obtain rfl : p = n := by omega
      have HE := HP.out
      rw [br_end _ _ (Nat.le_refl _)] at HE
      have HF : Hid (p = S) := HE
      clear HE HP
      go_wp2
      go_ret
      exact ⟨ret_int (by rw [← HF.out]), rfl⟩
end Go.Proofs.Qxb6604037a
