/-
  The walks of '(*jsonReader).hexEscape' (function 21): its three ways, and the small arithmetic they want.
-/
import Derived.Test.Qxb6603893aRows
import Derived.WalkKit
import Derived.WalkSpells
import Derived.WalkLawsBesides
namespace Go.Proofs.Qxb6603893a
open Go.RowKit
set_option linter.unusedVariables false

def acc (v : Nat → Int) : Nat → Int
  | 0 => 0
  | k + 1 => acc v k * 16 + v k

def HexDig (c v : Int) : Prop := (48 ≤ c ∧ c ≤ 57 ∧ v = c - 48) ∨ (97 ≤ c ∧ c ≤ 102 ∧ v = c - 87) ∨ (65 ≤ c ∧ c ≤ 70 ∧ v = c - 55)

theorem wrap_i32_small (n : Int) (h0 : 0 ≤ n) (h1 : n < 2147483648) : IntKind.i32.wrap n = n := by
  simp [IntKind.wrap, IntKind.bits, IntKind.signed]
  split <;> omega

theorem i32_or16 (a v : Int) (h0 : 0 ≤ a) (h1 : a ≤ 4095) (h2 : 0 ≤ v) (h3 : v ≤ 15) : bits .or .i32 (a * 16) v = a * 16 + v := by
  obtain ⟨A, rfl⟩ := Int.eq_ofNat_of_zero_le h0
  obtain ⟨B, rfl⟩ := Int.eq_ofNat_of_zero_le h2
  have e : A * 16 ||| B = A * 16 + B := by
    have := Nat.shiftLeft_add_eq_or_of_lt (show B < 2 ^ 4 by omega) A
    rw [Nat.shiftLeft_eq] at this
    exact this.symm
  show IntKind.i32.wrap ((BitVec.ofInt 32 ((A : Int) * 16) ||| BitVec.ofInt 32 (B : Int)).toNat : Int) = _
  rw [show ((A : Int) * 16) = ((A * 16 : Nat) : Int) by omega, BitVec.toNat_or]
  simp only [BitVec.ofInt_natCast, BitVec.toNat_ofNat]
  rw [Nat.mod_eq_of_lt (by omega), Nat.mod_eq_of_lt (by omega), e, wrap_i32_small _ (by omega) (by omega)]
  omega

theorem acc_bd (v : Nat → Int) (hv : ∀ k, 0 ≤ v k ∧ v k ≤ 15) (k : Nat) (hk : k ≤ 4) : 0 ≤ acc v k ∧ (k < 4 → acc v k ≤ 4095) ∧ acc v k ≤ 65535 := by
  have h0 := hv 0; have h1 := hv 1; have h2 := hv 2; have h3 := hv 3
  match k, hk with
  | 0, _ => simp [acc]
  | 1, _ => simp only [acc]; omega
  | 2, _ => simp only [acc]; omega
  | 3, _ => simp only [acc]; omega
  | 4, _ => simp only [acc]; omega
  | k + 5, hk => omega

set_option maxHeartbeats 400000 in
theorem hex_yes (b o : Nat) (len cap : Nat) (g f : Nat) (i : Nat) (w : World)
    (hc : w.cell? ⟨b, o, none⟩ = some (.slice (some ⟨g, f, none⟩) len cap)) (hlen : len ≤ 2000000) (h : (i : Int) + 6 ≤ len) (hcap : len ≤ cap)
    (hc0 : w.cell? ⟨g, f + i, none⟩ = some (.int .u8 92)) (hc1 : w.cell? ⟨g, f + (i + 1), none⟩ = some (.int .u8 117)) 
    (c v : Nat → Int) (hcs : ∀ k, k < 4 → w.cell? ⟨g, f + (i + 2) + k, none⟩ = some (.int .u8 (c k))) (hv : ∀ k, 0 ≤ v k ∧ v k ≤ 15) (hcv : ∀ k, k < 4 → HexDig (c k) (v k)) :
    Calls Try.prog 21 #[.pointer (some ⟨b, o, none⟩), .int .i64 i] w fun e w' => e = .returned (.tuple #[.int .i32 (acc v 4), .bool true]) ∧ w' = w := by
  go_enter Try.func21, Try.ntmps21
  go_wp2
  go_loop [6, 48] (fun u i => ∃ k : Nat, k ≤ 4 ∧ i = .int .i64 k ∧ u = .int .i32 (acc v k)) (fun _ i => 4 - (intOf i).toNat)
  case atStart => exact ⟨0, by omega, rfl, rfl⟩
  case round =>
    obtain ⟨k, hk, rfl, rfl⟩ := hrel
    by_cases hlt : k < 4
    · have hck := hcs k hlt
      have hd := hcv k hlt
      have ha := acc_bd v hv k hk
      clear hcs hcv hc0 hc1 hv
      rcases hd with ⟨d1, d2, d3⟩ | ⟨d1, d2, d3⟩ | ⟨d1, d2, d3⟩
      all_goals
        have HD := d3
        clear d3
        go_wp2
      all_goals
        go_round
        case rel =>
          have E : Value.int .i32 (bits .or .i32 (acc v k * 16) (v k)) = .int .i32 (acc v (k + 1)) := by
            rw [i32_or16 _ _ (by omega) (by omega) (by omega) (by omega)]; rfl
          rw [HD] at E
          first | exact ⟨k + 1, by omega, by go_num, E⟩ | exact ⟨_, _, _, _, _, ⟨k + 1, by omega, by go_num, E⟩, rfl, rfl, rfl, rfl, rfl⟩
        case measure => simp [intOf]; omega
    · obtain rfl : k = 4 := by omega
      go_wp2
      go_ret2
      exact ⟨rfl, rfl⟩

set_option maxHeartbeats 400000 in
theorem hex_short (b o : Nat) (len cap : Nat) (a : Option Addr) (i : Int) (w : World)
    (hc : w.cell? ⟨b, o, none⟩ = some (.slice a len cap)) (hlen : len ≤ 2000000) (h0 : 0 ≤ i) (hi : i ≤ 2000000) (h : (len : Int) < i + 6) :
    Calls Try.prog 21 #[.pointer (some ⟨b, o, none⟩), .int .i64 i] w fun e w' => e = .returned (.tuple #[.int .i32 0, .bool false]) ∧ w' = w := by
  go_enter Try.func21, Try.ntmps21
  go_wp2
  go_ret2
  exact ⟨rfl, rfl⟩

set_option maxHeartbeats 400000 in
theorem hex_no (b o : Nat) (len cap : Nat) (g f : Nat) (i : Nat) (c : Int) (w : World)
    (hc : w.cell? ⟨b, o, none⟩ = some (.slice (some ⟨g, f, none⟩) len cap)) (hlen : len ≤ 2000000) (h : (i : Int) + 6 ≤ len)
    (hci : w.cell? ⟨g, f + i, none⟩ = some (.int .u8 c)) (hne : (c != 92) = true) :
    Calls Try.prog 21 #[.pointer (some ⟨b, o, none⟩), .int .i64 i] w fun e w' => e = .returned (.tuple #[.int .i32 0, .bool false]) ∧ w' = w := by
  go_enter Try.func21, Try.ntmps21
  go_wp2
  go_ret2
  exact ⟨rfl, rfl⟩

end Go.Proofs.Qxb6603893a
