import Derived.Test.Qxb6600487aItoa
namespace Go.Proofs.Qxb6600487a
open Go.RowKit Dec
set_option linter.unusedVariables false

/-- 'zzItoa', whatever the number. -/
theorem itoa_any (k : Nat) (w : World) (h9 : k < 1000000000) :
    Calls Try.prog 34 #[.int .i64 k] w fun e w' => ∃ S : List UInt8, e = .returned (.string ⟨S.toArray⟩) ∧ S.map UInt8.toNat = itoa k ∧ Below w.heap.size w w' := by
  by_cases h : k = 0
  · subst h
    refine (itoa_zero w).mono ?_
    rintro e w' ⟨rfl, rfl⟩
    exact ⟨[48], rfl, rfl, Below.refl _ _⟩
  · refine (itoa_pos k w (by omega) h9).mono ?_
    rintro e w' ⟨S, rfl, hS, hb⟩
    exact ⟨S, rfl, by rw [hS, itoa, if_neg h], hb⟩

theorem map_toNat_inj : ∀ (a b : List UInt8), a.map UInt8.toNat = b.map UInt8.toNat → a = b
  | [], [], _ => rfl
  | [], _ :: _, h => by simp at h
  | _ :: _, [], h => by simp at h
  | x :: a, y :: b, h => by
    simp only [List.map_cons, List.cons.injEq] at h
    rw [UInt8.toNat_inj.1 h.1, map_toNat_inj a b h.2]

theorem nb_toList (s : ByteArray) : s.toList.map UInt8.toNat = nb s := by
  unfold nb; rw [ByteArray.toList_eq]
theorem nb_same {S : List UInt8} {s : ByteArray} (h : S.map UInt8.toNat = nb s) : S = s.toList := by
  rw [← nb_toList] at h
  exact map_toNat_inj _ _ h

/-- 'zzDecimal''s loop and what follows, in all outcomes. -/
theorem zdec_core (s : ByteArray) (w : World) (h0 : s.size ≠ 0) (h9 : s.size ≤ 9) (r : Ending)
    (hr1 : (nb s).all isDig = true → itoa (val (nb s)) = nb s → r = .returned (.tuple #[.int .i64 (val (nb s)), .bool true]))
    (hr2 : (nb s).all isDig = true → itoa (val (nb s)) ≠ nb s → r = .returned (.tuple #[.int .i64 0, .bool false]))
    (hr0 : (nb s).all isDig = false → r = .returned (.tuple #[.int .i64 0, .bool false])) :
    Calls Try.prog 17 #[.string s] w fun e w' => e = r ∧ Below w.heap.size w w' := by
  have HR1 : Hid ((nb s).all isDig = true → itoa (val (nb s)) = nb s → r = .returned (.tuple #[.int .i64 (val (nb s)), .bool true])) := hr1
  have HR2 : Hid ((nb s).all isDig = true → itoa (val (nb s)) ≠ nb s → r = .returned (.tuple #[.int .i64 0, .bool false])) := hr2
  have HR0 : Hid ((nb s).all isDig = false → r = .returned (.tuple #[.int .i64 0, .bool false])) := hr0
  clear hr1 hr0 hr2
  have hb : ((s.size : Int) == 0) = false := by simpa using h0
  have d9 : decide (9 < (s.size : Int)) = false := by simp; omega
  have d9' : decide (9 < s.size) = false := by simp; omega
  go_enter Try.func17, Try.ntmps17
  go_wp2
  clear d9 d9' hb
  go_loop [4, 5] (fun t q => ∃ i : Nat, i ≤ s.size ∧ q = .int .i64 i ∧ t = .int .i64 (val ((nb s).take i)) ∧ Hid (((nb s).take i).all isDig = true)) (fun _ q => s.size - (intOf q).toNat)
  case atStart => exact ⟨0, Nat.zero_le _, rfl, rfl, rfl⟩
  case round =>
    obtain ⟨i, hi, rfl, rfl, HA⟩ := hrel
    have hv := val_take_lt HA.out (by rw [nb_length]; exact h9)
    by_cases hlt : i < s.size
    · have hix := run_idx s i hlt
      have hcl := nb_lt s i
      have hsn := nb_take_succ s i hlt
      have HSN : Hid ((nb s).take (i + 1) = (nb s).take i ++ [(nb s).getD i 0]) := hsn
      clear hsn
      generalize hcc : (nb s).getD i 0 = c at hix hcl HSN
      clear hcc
      by_cases hd : 48 ≤ c ∧ c ≤ 57
      · obtain ⟨hd1, hd2⟩ := hd
        have hdg : isDig c = true := by simp [isDig, hd1, hd2]
        have HA2 : Hid (((nb s).take (i + 1)).all isDig = true) := all_take_succ HSN.out HA.out hdg
        have HV : Hid (val ((nb s).take (i + 1)) = val ((nb s).take i) * 10 + (c - 48)) := by show _ = _; rw [HSN.out, val_snoc]
        clear hdg HSN HA
        generalize hvv : val ((nb s).take i) = V at *
        clear hvv
        go_wp2
        go_round
        case rel => exact ⟨i + 1, by omega, by go_num, by rw [HV.out]; go_num, HA2⟩
        case measure => simp [intOf]; omega
      · have hdg : isDig c = false := by
          simp only [isDig, Bool.and_eq_false_iff, decide_eq_false_iff_not]; omega
        have hr := HR0.out (all_false HSN.out hdg)
        have HRR : Hid (r = .returned (.tuple #[.int .i64 0, .bool false])) := hr
        clear hr hdg HSN HA HR1 HR0 HR2
        generalize hvv : val ((nb s).take i) = V at *
        clear hvv
        by_cases hd1 : c < 48
        · go_wp2
          go_ret2
          exact ⟨HRR.out.symm, Below.refl _ _⟩
        · have hd2 : 57 < c := by omega
          go_wp2
          go_ret2
          exact ⟨HRR.out.symm, Below.refl _ _⟩
    · obtain rfl : i = s.size := by omega
      have ht : (nb s).take s.size = nb s := List.take_of_length_le (by rw [nb_length]; exact Nat.le_refl _)
      rw [ht] at hv HA ⊢
      have HR1' : Hid (itoa (val (nb s)) = nb s → r = .returned (.tuple #[.int .i64 (val (nb s)), .bool true])) := HR1.out HA.out
      have HR2' : Hid (itoa (val (nb s)) ≠ nb s → r = .returned (.tuple #[.int .i64 0, .bool false])) := HR2.out HA.out
      clear ht HR1 HR0 HR2 HA
      generalize hvv : val (nb s) = V at *
      clear hvv
      go_wp2_with fail
      refine (itoa_any V _ hv).mono ?_
      rintro e w1 ⟨S, rfl, hS, hb⟩
      have HB : Hid (Below w.heap.size w w1) := hb
      have HSS : Hid (S.map UInt8.toNat = itoa V) := hS
      clear hb hS
      cases hcmp : S == s.toList
      · have HE : Hid (r = .returned (.tuple #[.int .i64 0, .bool false])) := HR2'.out fun e => by
          rw [← HSS.out] at e
          rw [nb_same e] at hcmp
          simp at hcmp
        clear HR1' HR2' HSS
        go_wp2
        go_ret2
        exact ⟨HE.out.symm, HB.out⟩
      · have HE : Hid (r = .returned (.tuple #[.int .i64 V, .bool true])) := HR1'.out (by
          rw [← HSS.out, eq_of_beq hcmp]
          exact nb_toList s)
        clear HR1' HR2' HSS
        go_wp2
        go_ret2
        exact ⟨HE.out.symm, HB.out⟩

theorem zdec_some (s : ByteArray) (k : Nat) (w : World) (h : dec (nb s) = some k) :
    Calls Try.prog 17 #[.string s] w fun e w' => e = .returned (.tuple #[.int .i64 k, .bool true]) ∧ Below w.heap.size w w' := by
  have hi := (dec_itoa h).1
  unfold dec at h
  split at h
  · cases h
  · rename_i hn
    rw [nb_length] at hn
    split at h
    · rename_i hd
      cases h
      exact zdec_core s w (by omega) (by omega) _ (fun _ _ => rfl) (fun _ hne => absurd hi hne) (fun h => by rw [hd] at h; cases h)
    · cases h

set_option maxHeartbeats 400000 in
theorem zdec_none (s : ByteArray) (w : World) (hs : s.size ≤ 2000000) (h : dec (nb s) = none) :
    Calls Try.prog 17 #[.string s] w fun e w' => e = .returned (.tuple #[.int .i64 0, .bool false]) ∧ Below w.heap.size w w' := by
  by_cases h0 : s.size = 0
  · have hb : ((s.size : Int) == 0) = true := by simp [h0]
    clear h h0
    go_enter Try.func17, Try.ntmps17
    go_wp2
    go_ret2
    exact ⟨rfl, Below.refl _ _⟩
  have hb : ((s.size : Int) == 0) = false := by simpa using h0
  by_cases h9 : 9 < s.size
  · clear h
    go_enter Try.func17, Try.ntmps17
    go_wp2
    go_ret2
    exact ⟨rfl, Below.refl _ _⟩
  · exact zdec_core s w h0 (by omega) _ (fun hd hi => absurd hi (itoa_ne (by rw [nb_length]; exact h0) (by rw [nb_length]; omega) hd h)) (fun _ _ => rfl) (fun _ => rfl)
end Go.Proofs.Qxb6600487a
