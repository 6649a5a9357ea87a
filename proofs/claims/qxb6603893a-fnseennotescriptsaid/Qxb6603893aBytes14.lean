import Derived.Test.Qxb6603893aBytes
namespace Go.Proofs.Qxb6603893a
open Go.RowKit Go.Maps
set_option linter.unusedVariables false

set_option maxRecDepth 100000 in
set_option maxHeartbeats 2000000 in
theorem bytes14 (lim : Int) (a1 a2 a3 a4 a5 : Option Addr) (n1 n2 n3 n4 n5 c1 c2 c3 c4 c5 : Nat) (w : World) (h1 : n1 ≤ maxLen) (h2 : n2 ≤ maxLen) (h3 : n3 ≤ maxLen) (h4 : n4 ≤ maxLen) (h5 : n5 ≤ maxLen) :
    Calls Try.prog 14 #[.int .i64 lim, .slice a1 n1 c1, .slice a2 n2 c2, .slice a3 n3 c3, .slice a4 n4 c4, .slice a5 n5 c5] w fun ex w' => (ex = .returned (.bool true) ∨ ex = .returned (.bool false)) ∧ w = w' := by
  unfold maxLen at h1 h2 h3 h4 h5
  go_enter Try.func14, Try.ntmps14
  by_cases hc : 1048576 < n1
  · go_wp2
    go_ret
    exact ⟨.inr rfl, rfl⟩
  go_wp2_with fail
  go_loop [13, 14] (fun z q => ∃ i t : Nat, z = .int .i64 t ∧ q = .int .i64 i ∧ i ≤ n1 ∧ t ≤ 1048576) (fun _ q => n1 - (intOf q).toNat)
  case atStart => exact ⟨0, n1, rfl, rfl, Nat.zero_le _, by omega⟩
  case round =>
    obtain ⟨i, t, rfl, rfl, hi, ht⟩ := hrel
    by_cases hlt : i < n1
    · obtain ⟨p, hp⟩ : ∃ p : Nat, (p : Int) = (t : Int) + 16 := ⟨t + 16, by omega⟩
      have hadd := run_add_gen t 16 p hp (by omega) (by omega)
      have hpb : p ≤ 2000000 := by omega
      clear hp
      by_cases ht2 : 1048576 < p
      · go_wp2_with (refine wpList_addc _ 16 30 rfl rfl t p rfl hadd ?_)
        go_ret
        exact ⟨.inr rfl, rfl⟩
      · go_wp2_with (refine wpList_addc _ 16 30 rfl rfl t p rfl hadd ?_)
        go_round
        case rel => exact ⟨i + 1, p, by go_num, by go_num, by omega, by omega⟩
        case measure => simp [intOf]; omega
    · obtain rfl : i = n1 := by omega
      by_cases k2 : 1048576 < n2
      · go_wp2
        go_ret
        exact ⟨.inr rfl, rfl⟩
      by_cases q2 : 1048576 < t + n2
      · go_wp2
        go_ret
        exact ⟨.inr rfl, rfl⟩
      by_cases k3 : 1048576 < n3
      · go_wp2
        go_ret
        exact ⟨.inr rfl, rfl⟩
      by_cases q3 : 1048576 < t + n2 + n3
      · go_wp2
        go_ret
        exact ⟨.inr rfl, rfl⟩
      by_cases k4 : 1048576 < n4
      · go_wp2
        go_ret
        exact ⟨.inr rfl, rfl⟩
      by_cases q4 : 1048576 < t + n2 + n3 + n4
      · go_wp2
        go_ret
        exact ⟨.inr rfl, rfl⟩
      by_cases k5 : 1048576 < n5
      · go_wp2
        go_ret
        exact ⟨.inr rfl, rfl⟩
      by_cases q5 : 1048576 < t + n2 + n3 + n4 + n5
      · go_wp2
        go_ret
        exact ⟨.inr rfl, rfl⟩
      · go_wp2
        go_ret
        exact ⟨.inl rfl, rfl⟩
end Go.Proofs.Qxb6603893a
