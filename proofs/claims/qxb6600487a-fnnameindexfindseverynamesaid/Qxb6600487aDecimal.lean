import Derived.Test.Qxb6600487aRows
import Derived.Test.Qxb6600487aDec
import Derived.WalkKit
import Derived.WalkSpells
import Derived.WalkLawsBesides
namespace Go.Proofs.Qxb6600487a
open Go.RowKit Dec
set_option linter.unusedVariables false

/-- A string's bytes, as numbers. -/
def nb (s : ByteArray) : List Nat := s.data.toList.map UInt8.toNat

theorem nb_length (s : ByteArray) : (nb s).length = s.size := by simp [nb]
theorem nb_getD (s : ByteArray) (i : Nat) (h : i < s.size) : (nb s).getD i 0 = (s[i]).toNat := by
  have h' : i < (nb s).length := by rw [nb_length]; exact h
  rw [List.getD_eq_getElem?_getD, List.getElem?_eq_getElem h']
  simp only [nb, List.getElem_map, Option.getD_some]
  rfl
theorem nb_lt (s : ByteArray) (i : Nat) : (nb s).getD i 0 ≤ 255 := by
  by_cases h : i < s.size
  · rw [nb_getD s i h]; have := (s[i]).toNat_lt; omega
  · rw [List.getD_eq_getElem?_getD, List.getElem?_eq_none (by rw [nb_length]; omega)]; simp
theorem nb_take_succ (s : ByteArray) (i : Nat) (h : i < s.size) : (nb s).take (i + 1) = (nb s).take i ++ [(nb s).getD i 0] := by
  have h' : i < (nb s).length := by rw [nb_length]; exact h
  rw [List.take_succ_eq_append_getElem h', List.getD_eq_getElem?_getD, List.getElem?_eq_getElem h']
  rfl

theorem run_idx (s : ByteArray) (i : Nat) (h : i < s.size) (w : World) : (Instr.index 9 (.string s) (.int .i64 (i : Int))).run Try.prog w = .ok (.int .u8 (((nb s).getD i 0 : Nat) : Int)) w := by
  rw [nb_getD s i h]
  have hi : s[i]? = some s[i] := getElem?_pos s i h
  simp [Instr.index, asIntOf, run_underlying Try.underlying9, hi]

theorem all_take_succ {u : List Nat} {i c : Nat} (h : u.take (i + 1) = u.take i ++ [c]) (hd : (u.take i).all isDig = true) (hc : isDig c = true) : (u.take (i + 1)).all isDig = true := by
  rw [h, List.all_append, hd]; simp [hc]
theorem all_false {u : List Nat} {i c : Nat} (h : u.take (i + 1) = u.take i ++ [c]) (hc : isDig c = false) : u.all isDig = false := by
  rw [← List.take_append_drop (i + 1) u, List.all_append, h, List.all_append]; simp [hc]
theorem val_take_lt {u : List Nat} {i : Nat} (hd : (u.take i).all isDig = true) (hu : u.length ≤ 9) : val (u.take i) < 1000000000 := by
  have h1 := val_lt _ (u.take i) rfl hd
  have h2 : (u.take i).length ≤ 9 := by simp; omega
  have : 10 ^ (u.take i).length ≤ 10 ^ 9 := Nat.pow_le_pow_right (by omega) h2
  omega

/-- 'decimal''s loop and head, in both outcomes. -/
theorem decimal_core (s : ByteArray) (w : World) (h0 : s.size ≠ 0) (h9 : s.size ≤ 9) (hz : ¬ ((nb s).getD 0 0 = 48 ∧ 1 < s.size)) (r : Ending)
    (hr1 : (nb s).all isDig = true → r = .returned (.tuple #[.int .i64 (val (nb s)), .bool true])) (hr0 : (nb s).all isDig = false → r = .returned (.tuple #[.int .i64 0, .bool false])) :
    Calls Try.prog 37 #[.string s] w fun e w' => e = r ∧ w = w' := by
  have HR1 : Hid ((nb s).all isDig = true → r = .returned (.tuple #[.int .i64 (val (nb s)), .bool true])) := hr1
  have HR0 : Hid ((nb s).all isDig = false → r = .returned (.tuple #[.int .i64 0, .bool false])) := hr0
  clear hr1 hr0
  have hb : ((s.size : Int) == 0) = false := by simpa using h0
  have d9 : decide (9 < (s.size : Int)) = false := by simp; omega
  have d9' : decide (9 < s.size) = false := by simp; omega
  have i0 := run_idx s 0 (by omega)
  simp only [Int.natCast_zero] at i0
  have hc0 := nb_lt s 0
  have hpart : ((((nb s).getD 0 0 : Nat) : Int) == 48) = false ∨ (((((nb s).getD 0 0 : Nat) : Int) == 48) = true ∧ s.size ≤ 1) := by
    by_cases e : (nb s).getD 0 0 = 48
    · right; exact ⟨by rw [e]; rfl, by omega⟩
    · left; rw [beq_eq_false_iff_ne]; omega
  have d1 : s.size ≤ 1 → decide (1 < (s.size : Int)) = false := fun h => by simp; omega
  have d1' : s.size ≤ 1 → decide (1 < s.size) = false := fun h => by simp; omega
  generalize (nb s).getD 0 0 = c0 at i0 hc0 hpart
  clear hz
  have hfin : (((c0 : Int) == 48) = false) ∨ (((c0 : Int) == 48) = true ∧ decide (1 < (s.size : Int)) = false ∧ decide (1 < s.size) = false) := by
    rcases hpart with hp | ⟨hp, hp1⟩
    · exact Or.inl hp
    · exact Or.inr ⟨hp, d1 hp1, d1' hp1⟩
  clear d1 d1' hpart
  rcases hfin with hp | ⟨hp, e1, e1'⟩
  all_goals
    go_enter Try.func37, Try.ntmps37
    go_wp2
    clear hp i0 d9 d9' hb
    try clear e1 e1'
    go_loop [4, 5] (fun t q => ∃ i : Nat, i ≤ s.size ∧ q = .int .i64 i ∧ t = .int .i64 (val ((nb s).take i)) ∧ Hid (((nb s).take i).all isDig = true)) (fun _ q => s.size - (intOf q).toNat)
    case atStart => exact ⟨0, Nat.zero_le _, rfl, rfl, rfl⟩
    case round =>
      obtain ⟨i, hi, rfl, rfl, HA⟩ := hrel
      have hv := val_take_lt HA.out (by rw [nb_length]; exact h9)
      by_cases hlt : i < s.size
      · have hix := run_idx s i hlt
        have hcl := nb_lt s i
        have hsn := nb_take_succ s i hlt
        have HSN : Hid ((nb s).take (i + 1) = (nb s).take i ++ [(nb s).getD i 0]) := hsn
        clear hsn
        generalize hcc : (nb s).getD i 0 = c at hix hcl HSN
        clear hcc
        by_cases hd : 48 ≤ c ∧ c ≤ 57
        · obtain ⟨hd1, hd2⟩ := hd
          have hdg : isDig c = true := by simp [isDig, hd1, hd2]
          have HA2 : Hid (((nb s).take (i + 1)).all isDig = true) := all_take_succ HSN.out HA.out hdg
          have HV : Hid (val ((nb s).take (i + 1)) = val ((nb s).take i) * 10 + (c - 48)) := by show _ = _; rw [HSN.out, val_snoc]
          clear hdg HSN HA
          generalize hvv : val ((nb s).take i) = V at *
          clear hvv
          go_wp2
          go_round
          case rel => exact ⟨i + 1, by omega, by go_num, by rw [HV.out]; go_num, HA2⟩
          case measure => simp [intOf]; omega
        · have hdg : isDig c = false := by
            simp only [isDig, Bool.and_eq_false_iff, decide_eq_false_iff_not]; omega
          have hr := HR0.out (all_false HSN.out hdg)
          have HRR : Hid (r = .returned (.tuple #[.int .i64 0, .bool false])) := hr
          clear hr hdg HSN HA HR1 HR0
          generalize hvv : val ((nb s).take i) = V at *
          clear hvv
          by_cases hd1 : c < 48
          · go_wp2
            go_ret2
            exact ⟨HRR.out.symm, rfl⟩
          · have hd2 : 57 < c := by omega
            go_wp2
            go_ret2
            exact ⟨HRR.out.symm, rfl⟩
      · obtain rfl : i = s.size := by omega
        have ht : (nb s).take s.size = nb s := List.take_of_length_le (by rw [nb_length]; exact Nat.le_refl _)
        have hr := HR1.out (by rw [← ht]; exact HA.out)
        have HRR : Hid (r = .returned (.tuple #[.int .i64 (val ((nb s).take s.size)), .bool true])) := by show r = _; rw [hr, ht]
        clear hr ht HR1 HR0 HA
        generalize hvv : val ((nb s).take s.size) = V at *
        clear hvv
        go_wp2
        go_ret2
        exact ⟨HRR.out.symm, rfl⟩

set_option maxHeartbeats 400000 in
theorem decimal_some (s : ByteArray) (k : Nat) (w : World) (h : dec (nb s) = some k) :
    Calls Try.prog 37 #[.string s] w fun e w' => e = .returned (.tuple #[.int .i64 k, .bool true]) ∧ w = w' := by
  unfold dec at h
  split at h
  · cases h
  · rename_i hn
    rw [nb_length] at hn
    split at h
    · rename_i hd
      cases h
      refine decimal_core s w (by omega) (by omega) (fun hz => hn (Or.inr (Or.inr ⟨?_, hz.2⟩))) _ (fun _ => rfl) (fun h => by rw [hd] at h; cases h)
      have h1 : 0 < (nb s).length := by rw [nb_length]; omega
      have := hz.1
      rw [List.getD_eq_getElem?_getD, List.getElem?_eq_getElem h1] at this
      rw [List.head?_eq_getElem?, List.getElem?_eq_getElem h1]
      simpa using this
    · cases h

set_option maxHeartbeats 400000 in
theorem decimal_none (s : ByteArray) (w : World) (hs : s.size ≤ 2000000) (h : dec (nb s) = none) :
    Calls Try.prog 37 #[.string s] w fun e w' => e = .returned (.tuple #[.int .i64 0, .bool false]) ∧ w = w' := by
  by_cases h0 : s.size = 0
  · have hb : ((s.size : Int) == 0) = true := by simp [h0]
    clear h h0
    go_enter Try.func37, Try.ntmps37
    go_wp2
    go_ret2
    exact ⟨rfl, rfl⟩
  have hb : ((s.size : Int) == 0) = false := by simpa using h0
  by_cases h9 : 9 < s.size
  · clear h
    go_enter Try.func37, Try.ntmps37
    go_wp2
    go_ret2
    exact ⟨rfl, rfl⟩
  by_cases hz : (nb s).getD 0 0 = 48 ∧ 1 < s.size
  · obtain ⟨hz1, hz2⟩ := hz
    have i0 := run_idx s 0 (by omega)
    simp only [Int.natCast_zero] at i0
    rw [hz1] at i0
    clear h hz1
    go_enter Try.func37, Try.ntmps37
    go_wp2
    go_ret2
    exact ⟨rfl, rfl⟩
  · refine decimal_core s w h0 (by omega) hz _ (fun hd => ?_) (fun _ => rfl)
    exfalso
    unfold dec at h
    split at h
    · rename_i hn
      rw [nb_length] at hn
      rcases hn with hn | hn | ⟨hn, hn2⟩
      · exact h0 hn
      · exact h9 hn
      · refine hz ⟨?_, hn2⟩
        have h1 : 0 < (nb s).length := by rw [nb_length]; omega
        rw [List.head?_eq_getElem?, List.getElem?_eq_getElem h1] at hn
        rw [List.getD_eq_getElem?_getD, List.getElem?_eq_getElem h1]
        simpa using hn
    · cases h
end Go.Proofs.Qxb6600487a
