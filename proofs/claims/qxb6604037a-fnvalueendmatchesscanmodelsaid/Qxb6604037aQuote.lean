import Derived.Test.Qxb6604037aCopy
import Derived.Test.Qxb6604037aPlain
namespace Go.Proofs.Qxb6604037a
open Go.RowKit Plain
set_option linter.unusedVariables false

theorem ret_int {k : IntKind} {a b : Int} (h : a = b) : Ending.returned (.int k a) = .returned (.int k b) := by rw [h]

set_option maxHeartbeats 400000 in
theorem delim_any (c : Int) (w : World) : Calls Try.prog 18 #[.int .u8 c] w fun e w' => e = .returned (.bool (dl c)) ∧ w = w' := by
  rcases dl_cases c with ⟨hs, h⟩ | ⟨hs, h1, h2, h3, h4, h5, h6, h7⟩ <;> rw [hs]
  · rcases h with h | ⟨h1, h⟩ | ⟨h1, h2, h⟩ | ⟨h1, h2, h3, h⟩ | ⟨h1, h2, h3, h4, h⟩ | ⟨h1, h2, h3, h4, h5, h⟩ | ⟨h1, h2, h3, h4, h5, h6, h⟩
    all_goals
      go_enter Try.func18, Try.ntmps18
      go_wp2
      go_ret
      exact ⟨rfl, rfl⟩
  · go_enter Try.func18, Try.ntmps18
    go_wp2
    go_ret
    exact ⟨rfl, rfl⟩

/-- 'closingQuoteEnd': the parity scan. -/
theorem quote_row (g n cap : Nat) (X : Nat → Int) (i : Nat) (w : World) (hn : n ≤ 2000000) (hi : i ≤ n)
    (hc : ∀ j, j < n → w.cell? ⟨g, j, none⟩ = some (.int .u8 (X j))) :
    Calls Try.prog 16 #[.slice (some ⟨g, 0, none⟩) n cap, .int .i64 i] w fun e w' => e = .returned (.int .i64 (st X n i false)) ∧ w = w' := by
  generalize hS : st X n i false = S
  have HS : Hid (st X n i false = S) := hS
  clear hS
  go_enter Try.func16, Try.ntmps16
  go_wp2
  go_loop [5, 6] (fun b q => ∃ bs p : Nat, b = .int .i64 bs ∧ q = .int .i64 p ∧ p ≤ n ∧ bs ≤ p ∧ Hid (st X n p (bs % 2 == 1) = S)) (fun _ q => n - (intOf q).toNat)
  case atStart => exact ⟨0, i, rfl, rfl, hi, Nat.zero_le _, HS⟩
  case round =>
    obtain ⟨bs, p, rfl, rfl, hp, hb, HP⟩ := hrel
    clear HS
    by_cases hlt : p < n
    · have hcp := hc p hlt
      clear hc
      have hpar : (bs % 2 = 0) ∨ (bs % 2 = 1) := by omega
      cases k1 : X p == 34
      · have HQ : Hid (∀ b : Nat, (X p == 92) = true → b = bs + 1 → st X n (p + 1) (b % 2 == 1) = S) := fun b k2 hb => by
          rw [← HP.out]
          rcases hpar with h | h
          · rw [hb, show (bs % 2 == 1) = false by simp; omega, st_back hlt k1 k2, show ((bs + 1) % 2 == 1) = true by simp; omega]
          · rw [hb, show (bs % 2 == 1) = true by simp; omega, st_esc hlt, show ((bs + 1) % 2 == 1) = false by simp; omega]
        have HR : Hid ((X p == 92) = false → st X n (p + 1) (0 % 2 == 1) = S) := fun k2 => by
          rw [← HP.out]
          rcases hpar with h | h
          · rw [show (bs % 2 == 1) = false by simp; omega, st_other hlt k1 k2]; rfl
          · rw [show (bs % 2 == 1) = true by simp; omega, st_esc hlt]; rfl
        clear hpar HP
        cases k2 : X p == 92
        · have HE := HR.out k2
          have HF : Hid (st X n (p + 1) (0 % 2 == 1) = S) := HE
          clear HE HQ HR
          go_wp2
          go_round
          case rel => exact ⟨0, p + 1, rfl, by go_num, by omega, Nat.zero_le _, HF⟩
          case measure => simp [intOf]; omega
        · have HE := HQ.out (bs + 1) k2 rfl
          have HF : Hid (st X n (p + 1) ((bs + 1) % 2 == 1) = S) := HE
          clear HE HQ HR
          go_wp2
          go_round
          case rel => exact ⟨bs + 1, p + 1, by go_num, by go_num, by omega, by omega, HF⟩
          case measure => simp [intOf]; omega
      · rcases hpar with h | h
        · have hm : ((bs : Int) % 2 == 0) = true := by simp; omega
          have HE := HP.out
          rw [show (bs % 2 == 1) = false by simp; omega, st_quote hlt k1] at HE
          have HF : Hid (p + 1 = S) := HE
          clear HE HP
          go_wp2
          go_ret
          exact ⟨ret_int (by rw [← HF.out]; rfl), rfl⟩
        · have hm : ((bs : Int) % 2 == 0) = false := by simp; omega
          have k2 : (X p == 92) = false := by have := eq_of_beq k1; rw [this]; rfl
          have HE := HP.out
          rw [show (bs % 2 == 1) = true by simp; omega, st_esc hlt] at HE
          have HF : Hid (st X n (p + 1) (0 % 2 == 1) = S) := HE
          clear HE HP
          go_wp2
          go_round
          case rel => exact ⟨0, p + 1, rfl, by go_num, by omega, Nat.zero_le _, HF⟩
          case measure => simp [intOf]; omega
    · obtain rfl : p = n := by omega
      have HE := HP.out
      rw [st_end _ (Nat.le_refl _)] at HE
      have HF : Hid (p = S) := HE
      clear HE HP
      go_wp2
      go_ret
      exact ⟨ret_int (by rw [← HF.out]), rfl⟩
end Go.Proofs.Qxb6604037a
