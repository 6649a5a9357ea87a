import Derived.Test.Qxb6600487aFacts
namespace Go.Proofs.Qxb6600487a
open Go.RowKit Dec Go.Maps
set_option linter.unusedVariables false

/-- The index after the names U, in memory. -/
def Index (B : Nat) (w : World) (xb mb : Nat) (U : List ByteArray) : Prop :=
  ∃ bv T dn D, Nix B w xb mb bv T dn U.length D ∧ Facts U T dn D

theorem Tab.length_eq {B : Nat} {w : World} {base : Option Addr} {L c : Nat} {T : List Int} (h : Tab B w (.slice base L c) T) : L = T.length ∧ c = T.length := by
  rcases h.shape with ⟨e, e2⟩ | ⟨g, e, _⟩
  · simp only [Value.slice.injEq] at e; rw [e2]; exact ⟨e.2.1, e.2.2⟩
  · simp only [Value.slice.injEq] at e; exact ⟨e.2.1, e.2.2⟩

theorem getD_append_zeros (T : List Int) (m j : Nat) : (T ++ List.replicate m 0).getD j 0 = T.getD j 0 := by
  rw [List.getD_eq_getElem?_getD, List.getD_eq_getElem?_getD]
  by_cases h : j < T.length
  · rw [List.getElem?_append_left h]
  · rw [List.getElem?_append_right (by omega), List.getElem?_eq_none (l := T) (by omega)]
    by_cases h2 : j - T.length < m
    · rw [List.getElem?_replicate_of_lt h2]; rfl
    · rw [List.getElem?_eq_none (by simp; omega)]

theorem Nix.mono {B : Nat} {w : World} {xb mb : Nat} {bv : Value} {T : List Int} {dn : Int} {n n' : Nat} {D : DataW Unit} (h : Nix B w xb mb bv T dn n D) (hn : n ≤ n') : Nix B w xb mb bv T dn n' D :=
  ⟨h.blk, h.tab, h.map.mono hn, h.bx, h.bm⟩

/-- 'add', whatever the name. -/
theorem add_any (B xb mb : Nat) (U : List ByteArray) (s : ByteArray) (w : World) (h : Index B w xb mb U) (hs : s.size ≤ 2000000) (hnew : s ∉ U) (hU : U.length ≤ 65536) :
    Calls Try.prog 33 #[.pointer (some ⟨xb, 0, none⟩), .string s, .int .i32 (U.length : Int)] w fun e w' => e = .returned (.tuple #[]) ∧ Index B w' xb mb (U ++ [s]) ∧ Kept B xb mb w w' := by
  obtain ⟨bv, T, dn, D, hN, hF⟩ := h
  have hlen : (U ++ [s]).length = U.length + 1 := by simp
  have hcd := cnt_le (farB U) U.length
  have hdn := hF.far
  cases hd : dec (nb s) with
  | none =>
    have hin : inTab s U.length = none := by unfold inTab; rw [hd]
    refine (add_plain B xb mb bv T dn U.length D s U.length w hN hs hU (by omega) hd).mono ?_
    rintro e w' ⟨rfl, hN', hK⟩
    exact ⟨rfl, ⟨bv, T, dn, _, by rw [hlen]; exact hN', hF.put hnew hin dn (by rw [hd]; simp)⟩, hK⟩
  | some k =>
    have hk0 := (dec_itoa hd).2
    by_cases hk : (k : Int) < 4 * (U.length : Int) + 65536
    · have hin : inTab s U.length = some k := by unfold inTab; rw [hd]; simp only []; rw [if_pos hk]
      rcases hN.tab.shape with ⟨rfl, rfl⟩ | ⟨g, rfl, hBg, hg⟩
      · refine (add_grow B xb mb 0 none [] dn U.length D s U.length k w hN hs hU hd hk0 hk (Nat.zero_le _)).mono ?_
        rintro e w' ⟨rfl, ⟨g, cap, h1, h2, hN'⟩, hK⟩
        refine ⟨rfl, ⟨_, _, dn, D, (hN'.mono (by rw [hlen]; omega)), hF.set hnew hin ?_ ?_ ?_⟩, hK⟩
        · simp; omega
        · simp
        · intro j
          rw [getD_set_int (by simp; omega), getD_append_zeros]
      · by_cases hkL : k < T.length
        · refine (add_near B xb mb g T.length T dn U.length D s U.length k w hN hs hU hd hk0 hk hkL).mono ?_
          rintro e w' ⟨rfl, hN', hK⟩
          exact ⟨rfl, ⟨_, _, dn, D, (hN'.mono (by rw [hlen]; omega)), hF.set hnew hin (by simpa using hkL) (by simp) (fun j => getD_set_int hkL j)⟩, hK⟩
        · refine (add_grow B xb mb T.length (some ⟨g, 0, none⟩) T dn U.length D s U.length k w hN hs hU hd hk0 hk (by omega)).mono ?_
          rintro e w' ⟨rfl, ⟨g', cap, h1, h2, hN'⟩, hK⟩
          refine ⟨rfl, ⟨_, _, dn, D, (hN'.mono (by rw [hlen]; omega)), hF.set hnew hin ?_ ?_ ?_⟩, hK⟩
          · simp; omega
          · simp
          · intro j
            rw [getD_set_int (by simp; omega), getD_append_zeros]
    · have hin : inTab s U.length = none := by unfold inTab; rw [hd]; simp only []; rw [if_neg hk]
      refine (add_far B xb mb bv T dn U.length D s U.length k w hN hs hU (by omega) (by omega) (by omega) hd hk0 (by omega)).mono ?_
      rintro e w' ⟨rfl, hN', hK⟩
      exact ⟨rfl, ⟨bv, T, dn + 1, _, by rw [hlen]; exact hN', hF.put hnew hin (dn + 1) (by rw [hd]; simp)⟩, hK⟩

set_option maxHeartbeats 400000 in
theorem zadd_any (B xb mb : Nat) (U : List ByteArray) (s : ByteArray) (w : World) (h : Index B w xb mb U) (hs : s.size ≤ 2000000) (hnew : s ∉ U) (hU : U.length ≤ 65536) :
    Calls Try.prog 16 #[.pointer (some ⟨xb, 0, none⟩), .string s, .int .i32 (U.length : Int)] w fun e w' => e = .returned (.tuple #[]) ∧ Index B w' xb mb (U ++ [s]) ∧ Kept B xb mb w w' := by
  have H := hide h
  clear h
  go_enter Try.func16, Try.ntmps16
  go_wp2_with fail
  refine (add_any B xb mb U s _ H.out hs hnew hU).mono ?_
  rintro e w' ⟨rfl, hI, hK⟩
  have HI := hide hI
  have HK := hide hK
  clear hI hK H
  go_wp2
  go_end0
  exact ⟨rfl, HI.out, HK.out⟩

/-! ### The readers -/
section
variable {B xb mb : Nat} {bv : Value} {T : List Int} {dn : Int} {n : Nat} {D : DataW Unit} {w : World}

set_option maxHeartbeats 400000 in
theorem len18 (h : Nix B w xb mb bv T dn n D) : Calls Try.prog 18 #[.pointer (some ⟨xb, 0, none⟩)] w fun e w' => e = .returned (.int .i64 (T.length : Int)) ∧ w = w' := by
  have c0 := h.cell0
  obtain ⟨base, L, c, rfl⟩ : ∃ base L c, bv = .slice base L c := by
    rcases h.tab.shape with ⟨e, _⟩ | ⟨g, e, _⟩ <;> exact ⟨_, _, _, e⟩
  obtain ⟨rfl, rfl⟩ := h.tab.length_eq
  clear h
  go_enter Try.func18, Try.ntmps18
  go_wp2
  go_ret
  exact ⟨rfl, rfl⟩

set_option maxHeartbeats 400000 in
theorem at19 (h : Nix B w xb mb bv T dn n D) (k : Nat) (hk : k < T.length) : Calls Try.prog 19 #[.pointer (some ⟨xb, 0, none⟩), .int .i64 (k : Int)] w fun e w' => e = .returned (.int .i32 (T.getD k 0)) ∧ w = w' := by
  have c0 := h.cell0
  rcases h.tab.shape with ⟨_, rfl⟩ | ⟨g, rfl, _, hg⟩
  · simp at hk
  · have hc : w.cell? ⟨g, k, none⟩ = some (.int .i32 (T.getD k 0)) := by
      rw [cell_of_row w g k _ 21 _ hg]
      simp [List.getD_eq_getElem?_getD, List.getElem?_eq_getElem hk]
    generalize T.getD k 0 = x at hc ⊢
    clear h hg
    go_enter Try.func19, Try.ntmps19
    go_wp2
    go_ret
    exact ⟨rfl, rfl⟩

theorem zero21 (w : World) : (zeroValue 21).run Try.prog w = .ok (.int .i32 0) w := by kernel_rfl

set_option maxHeartbeats 400000 in
theorem name20 (h : Nix B w xb mb bv T dn n D) (s : ByteArray) (hs : s.size ≤ 2000000) :
    Calls Try.prog 20 #[.pointer (some ⟨xb, 0, none⟩), .string s] w fun e w' => ∃ c, e = .returned (.tuple #[.int .i32 c, .bool (Maps.has D (key s))]) ∧ D.atKey (key s) (.lit (.int .i32 0)) = .lit (.int .i32 c) ∧ w = w' := by
  have c1 := h.cell1
  have hk := hkey9 s (by unfold maxLen; omega)
  have HM := h.map
  go_enter Try.func20, Try.ntmps20
  go_wp2_with (at_lookup; go_loud (refine wpList_lookup_own_ok_int _ rfl _ _ 53 rfl 9 21 .i32 law9 Try.underlying53 Try.underlying21 (zero21 _) mb n D rfl HM _ _ rfl hk ?_; intro c hat hwc; have HA := hide hat; clear hat hwc))
  go_ret2
  exact ⟨_, rfl, (by assumption : Hid _).out, rfl⟩

set_option maxHeartbeats 400000 in
theorem nlen21 (h : Nix B w xb mb bv T dn n D) : Calls Try.prog 21 #[.pointer (some ⟨xb, 0, none⟩)] w fun e w' => e = .returned (.int .i64 (Maps.size D : Int)) ∧ w = w' := by
  have c1 := h.cell1
  have hl := fun ty => h.map.len (t := 53) (e := 21) Try.underlying53 ty
  go_enter Try.func21, Try.ntmps21
  go_wp2
  go_ret
  exact ⟨rfl, rfl⟩

set_option maxHeartbeats 400000 in
theorem decs22 (h : Nix B w xb mb bv T dn n D) : Calls Try.prog 22 #[.pointer (some ⟨xb, 0, none⟩)] w fun e w' => e = .returned (.int .i64 dn) ∧ w = w' := by
  have c2 := h.cell2
  simp only [Nat.zero_add] at c2
  clear h
  go_enter Try.func22, Try.ntmps22
  go_wp2
  go_ret
  exact ⟨rfl, rfl⟩
end
end Go.Proofs.Qxb6600487a
