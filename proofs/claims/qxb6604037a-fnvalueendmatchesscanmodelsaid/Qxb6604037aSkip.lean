import Derived.Test.Qxb6604037aRows
import Derived.WalkKit
import Derived.WalkSpells
import Derived.WalkLawsBesides
import Derived.Laws.CopyOwn
namespace Go.Proofs.Qxb6604037a
open Go.RowKit
set_option linter.unusedVariables false

theorem Try.info5 : (Try.prog.info? 5).map (fun i => (i.zero, i.size, i.bytes)) = some (some (.int .u8 0), 1, 1) := by kernel_rfl

/-- JSON white space, as the walk decides it. -/
def sp (c : Int) : Bool := c == 32 || c == 9 || c == 10 || c == 13

theorem sp_cases (c : Int) : (sp c = true ∧ ((c == 32) = true ∨ ((c == 32) = false ∧ (c == 9) = true) ∨ ((c == 32) = false ∧ (c == 9) = false ∧ (c == 10) = true) ∨ ((c == 32) = false ∧ (c == 9) = false ∧ (c == 10) = false ∧ (c == 13) = true))) ∨ (sp c = false ∧ (c == 32) = false ∧ (c == 9) = false ∧ (c == 10) = false ∧ (c == 13) = false) := by
  unfold sp
  cases c == 32 <;> cases c == 9 <;> cases c == 10 <;> cases c == 13 <;> simp

set_option maxHeartbeats 400000 in
theorem space_any (c : Int) (w : World) : Calls Try.prog 9 #[.int .u8 c] w fun e w' => e = .returned (.bool (sp c)) ∧ w = w' := by
  rcases sp_cases c with ⟨hs, h | ⟨h1, h⟩ | ⟨h1, h2, h⟩ | ⟨h1, h2, h3, h⟩⟩ | ⟨hs, h1, h2, h3, h4⟩ <;> rw [hs]
  all_goals
    go_enter Try.func9, Try.ntmps9
    go_wp2
    go_ret
    exact ⟨rfl, rfl⟩

set_option maxHeartbeats 400000 in
theorem skip_row (g n cap : Nat) (X : Nat → Int) (i : Nat) (w : World) (hn : n ≤ 2000000) (hi : i ≤ 9223372036854775807)
    (hc : ∀ j, j < n → w.cell? ⟨g, j, none⟩ = some (.int .u8 (X j))) :
    Calls Try.prog 14 #[.slice (some ⟨g, 0, none⟩) n cap, .int .i64 i] w fun e w' => (∃ r : Nat, e = .returned (.int .i64 r) ∧ i ≤ r ∧ (n ≤ i → r = i) ∧ (i < n → r ≤ n) ∧ (∀ j, i ≤ j → j < r → sp (X j) = true) ∧ (r < n → sp (X r) = false)) ∧ w = w' := by
  go_enter Try.func14, Try.ntmps14
  go_wp2
  go_loop [1] (fun t => ∃ r : Nat, t = .int .i64 r ∧ i ≤ r ∧ (n ≤ i → r = i) ∧ (i < n → r ≤ n) ∧ (∀ j, i ≤ j → j < r → sp (X j) = true)) (fun t => n - (intOf t).toNat)
  case atStart => exact ⟨i, rfl, Nat.le_refl _, fun _ => rfl, fun h => by omega, fun j h1 h2 => by omega⟩
  case round =>
    obtain ⟨r, rfl, h1, h2, h3, h4⟩ := hrel
    have H2 : Hid (n ≤ i → r = i) := h2
    have H4 : Hid (∀ j, i ≤ j → j < r → sp (X j) = true) := h4
    clear h2 h4
    by_cases hlt : r < n
    · have hcr := hc r hlt
      clear hc
      rcases sp_cases (X r) with ⟨hs, hh⟩ | ⟨hs, k1, k2, k3, k4⟩
      · have H5 : Hid (∀ j, i ≤ j → j < r + 1 → sp (X j) = true) := fun j a b => by
          by_cases e : j = r
          · rw [e]; exact hs
          · exact H4.out j a (by omega)
        clear hs
        rcases hh with k | ⟨k1, k⟩ | ⟨k1, k2, k⟩ | ⟨k1, k2, k3, k⟩
        all_goals
          go_wp2
          go_round
          case rel => exact ⟨r + 1, by go_num, by omega, fun h => by omega, fun h => by omega, H5.out⟩
          case measure => simp [intOf]; omega
      · have HS : Hid (sp (X r) = false) := hs
        clear hs
        go_wp2
        go_ret
        exact ⟨⟨r, rfl, h1, H2.out, h3, H4.out, fun _ => HS.out⟩, rfl⟩
    · go_wp2
      go_ret
      exact ⟨⟨r, rfl, h1, H2.out, h3, H4.out, fun h => absurd h hlt⟩, rfl⟩
end Go.Proofs.Qxb6604037a
