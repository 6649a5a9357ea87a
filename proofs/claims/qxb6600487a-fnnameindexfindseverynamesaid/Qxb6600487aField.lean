import Derived.Test.Qxb6600487aRows
import Derived.WalkKit
import Derived.WalkSpells
import Derived.WalkLawsBesides
import Derived.Deep.QuietTactic
import Derived.BigQuiet
namespace Go.Proofs.Qxb6600487a
open Go.RowKit
set_option linter.unusedVariables false

theorem Try.info5 : (Try.prog.info? 5).map (fun i => (i.zero, i.size, i.bytes)) = some (some (.int .u8 0), 1, 1) := by kernel_rfl

/-- The blanks of an edge list's line. -/
def ws (c : Int) : Bool := c == 32 || c == 9 || c == 13 || c == 11 || c == 12

theorem ws_cases (c : Int) : (ws c = true ∧ ((c == 32) = true ∨ ((c == 32) = false ∧ (c == 9) = true) ∨ ((c == 32) = false ∧ (c == 9) = false ∧ (c == 13) = true) ∨ ((c == 32) = false ∧ (c == 9) = false ∧ (c == 13) = false ∧ (c == 11) = true) ∨ ((c == 32) = false ∧ (c == 9) = false ∧ (c == 13) = false ∧ (c == 11) = false ∧ (c == 12) = true))) ∨
    (ws c = false ∧ (c == 32) = false ∧ (c == 9) = false ∧ (c == 13) = false ∧ (c == 11) = false ∧ (c == 12) = false) := by
  unfold ws
  cases c == 32 <;> cases c == 9 <;> cases c == 13 <;> cases c == 11 <;> cases c == 12 <;> simp

set_option maxHeartbeats 400000 in
theorem space11 (c : Int) (w : World) : Calls Try.prog 11 #[.int .u8 c] w fun e w' => e = .returned (.bool (ws c)) ∧ w = w' := by
  rcases ws_cases c with ⟨hs, h | ⟨h1, h⟩ | ⟨h1, h2, h⟩ | ⟨h1, h2, h3, h⟩ | ⟨h1, h2, h3, h4, h⟩⟩ | ⟨hs, h1, h2, h3, h4, h5⟩ <;> rw [hs]
  all_goals
    go_enter Try.func11, Try.ntmps11
    go_wp2
    go_ret
    exact ⟨rfl, rfl⟩

set_option maxHeartbeats 400000 in
theorem space36 (c : Int) (w : World) : Calls Try.prog 36 #[.int .u8 c] w fun e w' => e = .returned (.bool (ws c)) ∧ w = w' := by
  rcases ws_cases c with ⟨hs, h | ⟨h1, h⟩ | ⟨h1, h2, h⟩ | ⟨h1, h2, h3, h⟩ | ⟨h1, h2, h3, h4, h⟩⟩ | ⟨hs, h1, h2, h3, h4, h5⟩ <;> rw [hs]
  all_goals
    go_enter Try.func36, Try.ntmps36
    go_wp2
    go_ret
    exact ⟨rfl, rfl⟩

/-- What 'field' finds in the m bytes X: nothing but blanks; or the first field [i, j). -/
def AllWs (X : Nat → Int) (m : Nat) : Prop := ∀ t, t < m → ws (X t) = true
def FieldAt (X : Nat → Int) (m i j : Nat) : Prop := i < j ∧ j ≤ m ∧ (∀ t, t < i → ws (X t) = true) ∧ (∀ t, i ≤ t → t < j → ws (X t) = false) ∧ (j < m → ws (X j) = true)

/-- How 'field' ends: both nil over blanks alone; else the field and what is left, where they lie. -/
def FieldEnd (X : Nat → Int) (m g o cap : Nat) (e : Ending) : Prop :=
  (AllWs X m ∧ e = .returned (.tuple #[.slice none 0 0, .slice none 0 0])) ∨
  ∃ i j r, FieldAt X m i j ∧ (j < m → r = ⟨g, o + j, none⟩) ∧ e = .returned (.tuple #[.slice (some ⟨g, o + i, none⟩) (j - i) (cap - i), .slice (some r) (m - j) (cap - j)])

theorem fieldEnd_at {X : Nat → Int} {m g o cap i j l c : Nat} {r : Addr} (h : FieldAt X m i j) (hl : l = m - j) (hc : c = cap - j) (hr : j < m → r = ⟨g, o + j, none⟩) :
    FieldEnd X m g o cap (.returned (.tuple #[.slice (some ⟨g, o + i, none⟩) (j - i) (cap - i), .slice (some r) l c])) := by
  subst hl; subst hc
  exact Or.inr ⟨i, j, r, h, hr, rfl⟩

set_option maxHeartbeats 400000 in
theorem field_row (g o m cap : Nat) (X : Nat → Int) (w : World) (hm : m ≤ 2000000) (hmc : m ≤ cap) (hcap : cap ≤ maxLen)
    (hc : ∀ t, t < m → w.cell? ⟨g, o + t, none⟩ = some (.int .u8 (X t))) :
    Calls Try.prog 32 #[.slice (some ⟨g, o, none⟩) m cap] w fun e w' => (∃ k, w' = w.drewN k) ∧ FieldEnd X m g o cap e := by
  unfold maxLen at hcap
  go_enter Try.func32, Try.ntmps32
  go_wp2
  go_loop [4] (fun t => ∃ i : Nat, t = .int .i64 i ∧ i ≤ m ∧ Hid (∀ t, t < i → ws (X t) = true)) (fun t => m - (intOf t).toNat)
  case atStart => exact ⟨0, rfl, Nat.zero_le _, fun t h => by omega⟩
  case round =>
    obtain ⟨i, rfl, hi, HI⟩ := hrel
    by_cases hlt : i < m
    · have hci := hc i hlt
      cases hs : ws (X i)
      · have HS : Hid (ws (X i) = false) := hs
        go_wp2_with (go_at_call 36; refine (space36 _ _).mono ?_; rintro e w' ⟨rfl, rfl⟩; rw [hs])
        clear hs hci
        go_loop [5] (fun t => ∃ j : Nat, t = .int .i64 j ∧ i ≤ j ∧ j ≤ m ∧ Hid (∀ t, i ≤ t → t < j → ws (X t) = false)) (fun t => m - (intOf t).toNat)
        case atStart => exact ⟨i, rfl, Nat.le_refl _, hi, fun t h h' => by omega⟩
        case round =>
          obtain ⟨j, rfl, hij, hj, HJ⟩ := hrel
          by_cases hlj : j < m
          · have hcj := hc j hlj
            cases hs : ws (X j)
            · have HK : Hid (∀ t, i ≤ t → t < j + 1 → ws (X t) = false) := fun t h h' => by
                by_cases e : t = j
                · rw [e]; exact hs
                · exact HJ.out t h (by omega)
              clear HI HJ hc
              go_wp2_with (go_at_call 36; refine (space36 _ _).mono ?_; rintro e w' ⟨rfl, rfl⟩; rw [hs])
              go_round
              case rel => first | exact ⟨j + 1, by go_num, by omega, by omega, HK⟩ | (refine ⟨trivial, ?_⟩; (repeat apply Exists.intro); exact ⟨⟨j + 1, by go_num, by omega, by omega, HK⟩, rfl⟩)
              case measure => simp [intOf]; omega
            · have hne : i < j := by
                rcases Nat.lt_or_eq_of_le hij with h | h
                · exact h
                · have := HS.out; rw [h, hs] at this; cases this
              have HF : Hid (FieldAt X m i j) := ⟨hne, hj, HI.out, HJ.out, fun _ => hs⟩
              clear HI HJ HS hc
              go_wp2_with (go_at_call 36; refine (space36 _ _).mono ?_; rintro e w' ⟨rfl, rfl⟩; rw [hs])
              go_quiet (fail)
              go_wp2
              all_goals
                go_ret2
                exact ⟨⟨_, rfl⟩, fieldEnd_at HF.out (by omega) (by omega) (fun h => by first | rfl | omega)⟩
          · obtain rfl : j = m := by omega
            have HF : Hid (FieldAt X j i j) := ⟨hlt, hj, HI.out, HJ.out, fun h => by omega⟩
            clear HI HJ HS hc
            go_wp2_with fail
            go_quiet (fail)
            go_wp2
            all_goals
              go_ret2
              exact ⟨⟨_, rfl⟩, fieldEnd_at HF.out (by omega) (by omega) (fun h => by first | rfl | omega)⟩
      · have HJ : Hid (∀ t, t < i + 1 → ws (X t) = true) := fun t h => by
          by_cases e : t = i
          · rw [e]; exact hs
          · exact HI.out t (by omega)
        clear HI hc
        go_wp2_with (go_at_call 36; refine (space36 _ _).mono ?_; rintro e w' ⟨rfl, rfl⟩; rw [hs])
        go_round
        case rel => first | exact ⟨i + 1, by go_num, by omega, HJ⟩ | (refine ⟨trivial, ?_⟩; (repeat apply Exists.intro); exact ⟨⟨i + 1, by go_num, by omega, HJ⟩, rfl⟩)
        case measure => simp [intOf]; omega
    · obtain rfl : i = m := by omega
      go_wp2_with fail
      refine wp_loop_rounds 1 ?_
      rw [rounds_succ]
      go_wp2
      go_ret2
      exact ⟨⟨0, rfl⟩, Or.inl ⟨HI.out, rfl⟩⟩
end Go.Proofs.Qxb6600487a
