import Derived.Test.Qxb6603893aHexZz
namespace Go.Proofs.Qxb6603893a
open Go.RowKit
set_option linter.unusedVariables false

theorem Try.info5 : (Try.prog.info? 5).map (fun i => (i.zero, i.size, i.bytes)) = some (some (.int .u8 0), 1, 1) := by kernel_rfl

theorem cells_new (w : World) (l : List Value) (t : TypeId) : ∀ j u, l[j]? = some u → (w.alloc (.cells l.toArray t)).cell? ((⟨w.heap.size, 0, none⟩ : Addr).add j) = some u := by
  intro j u hu
  rw [Addr.add_lit, World.cell?_alloc_at _ _ _ _ rfl]
  simpa using hu

def upS : ByteArray := ⟨#[48, 49, 50, 51, 52, 53, 54, 55, 56, 57, 65, 66, 67, 68, 69, 70]⟩
def loS : ByteArray := ⟨#[48, 49, 50, 51, 52, 53, 54, 55, 56, 57, 97, 98, 99, 100, 101, 102]⟩
def upC (n : Nat) : Int := if n < 10 then 48 + n else 55 + n
def loC (n : Nat) : Int := if n < 10 then 48 + n else 87 + n
theorem upC_hex (n : Nat) (h : n < 16) : HexDig (upC n) n := by unfold upC HexDig; split <;> omega
theorem loC_hex (n : Nat) (h : n < 16) : HexDig (loC n) n := by unfold loC HexDig; split <;> omega
theorem run_up (n : Nat) (h : n < 16) (w : World) : (Instr.index 9 (.string ⟨#[48, 49, 50, 51, 52, 53, 54, 55, 56, 57, 65, 66, 67, 68, 69, 70]⟩) (.int .i64 n)).run Try.prog w = .ok (.int .u8 (upC n)) w := by
  rcases (show n = 0 ∨ n = 1 ∨ n = 2 ∨ n = 3 ∨ n = 4 ∨ n = 5 ∨ n = 6 ∨ n = 7 ∨ n = 8 ∨ n = 9 ∨ n = 10 ∨ n = 11 ∨ n = 12 ∨ n = 13 ∨ n = 14 ∨ n = 15 by omega) with rfl | rfl | rfl | rfl | rfl | rfl | rfl | rfl | rfl | rfl | rfl | rfl | rfl | rfl | rfl | rfl <;> kernel_rfl
theorem run_lo (n : Nat) (h : n < 16) (w : World) : (Instr.index 9 (.string ⟨#[48, 49, 50, 51, 52, 53, 54, 55, 56, 57, 97, 98, 99, 100, 101, 102]⟩) (.int .i64 n)).run Try.prog w = .ok (.int .u8 (loC n)) w := by
  rcases (show n = 0 ∨ n = 1 ∨ n = 2 ∨ n = 3 ∨ n = 4 ∨ n = 5 ∨ n = 6 ∨ n = 7 ∨ n = 8 ∨ n = 9 ∨ n = 10 ∨ n = 11 ∨ n = 12 ∨ n = 13 ∨ n = 14 ∨ n = 15 by omega) with rfl | rfl | rfl | rfl | rfl | rfl | rfl | rfl | rfl | rfl | rfl | rfl | rfl | rfl | rfl | rfl <;> kernel_rfl

theorem and15 (x : Int) (h0 : 0 ≤ x) (h1 : x ≤ 65535) : ∃ n : Nat, n < 16 ∧ bits .and .i64 x 15 = (n : Int) ∧ (n : Int) = x % 16 := by
  obtain ⟨X, rfl⟩ := Int.eq_ofNat_of_zero_le h0
  refine ⟨X % 16, by omega, ?_, by omega⟩
  have e : X &&& 15 = X % 16 := Nat.and_two_pow_sub_one_eq_mod X 4
  show IntKind.i64.wrap ((BitVec.ofInt 64 (X : Int) &&& BitVec.ofInt 64 (15 : Int)).toNat : Int) = _
  rw [BitVec.toNat_and, show (15 : Int) = ((15 : Nat) : Int) from rfl]
  simp only [BitVec.ofInt_natCast, BitVec.toNat_ofNat]
  rw [Nat.mod_eq_of_lt (by omega), Nat.mod_eq_of_lt (by omega), e]
  simp [IntKind.wrap, IntKind.bits, IntKind.signed]
  omega

theorem dig_step (f : Nat → Int) (D : List Int) (k : Nat) (hD : D.length = k) (hdig : ∀ j, j < k → HexDig (D.getD j 0) (f j)) (c n : Int) (hc : HexDig c n) (hn : n = f k) : ∀ j, j < k + 1 → HexDig ((D ++ [c]).getD j 0) (f j) := by
  intro j hj
  by_cases h : j < k
  · rw [List.getD_eq_getElem?_getD, List.getElem?_append_left (by omega), ← List.getD_eq_getElem?_getD]; exact hdig j h
  · obtain rfl : j = k := by omega
    rw [List.getD_eq_getElem?_getD, List.getElem?_append_right (by omega), hD, Nat.sub_self, ← hn]
    exact hc

def nib (u : Int) : Nat → Int
  | 0 => u / 4096 % 16
  | 1 => u / 256 % 16
  | 2 => u / 16 % 16
  | 3 => u % 16
  | _ => 0

theorem nib_bd (u : Int) (k : Nat) : 0 ≤ nib u k ∧ nib u k ≤ 15 := by unfold nib; split <;> omega
theorem acc_nib (u : Int) (h0 : 0 ≤ u) (h1 : u ≤ 65535) : acc (nib u) 4 = u := by
  simp only [acc, nib]
  omega

theorem text_cells {w : World} {B n cap len0 : Nat} {P D S : List Int} (hP : P.length = len0) (hD : D.length = 4)
    (h : w.ownsRow B 5 1 (.slice (some ⟨B, 0, none⟩) n cap) n (P.map (Value.int .u8) ++ .int .u8 92 :: .int .u8 117 :: (D.map (Value.int .u8) ++ S.map (Value.int .u8)))) :
    w.cell? ⟨B, 0 + len0, none⟩ = some (.int .u8 92) ∧ w.cell? ⟨B, 0 + (len0 + 1), none⟩ = some (.int .u8 117) ∧ ∀ k, k < 4 → w.cell? ⟨B, 0 + (len0 + 2) + k, none⟩ = some (.int .u8 (D.getD k 0)) := by
  have c := h.cells (g := B) rfl
  refine ⟨?_, ?_, fun k hk => ?_⟩
  · have := c len0 (.int .u8 92) (by rw [List.getElem?_append_right (by simp [hP])]; simp [hP])
    simpa [Addr.add_lit] using this
  · have := c (len0 + 1) (.int .u8 117) (by rw [List.getElem?_append_right (by simp [hP])]; simp [hP])
    simpa [Addr.add_lit] using this
  · have := c (len0 + 2 + k) (.int .u8 (D.getD k 0)) (by
      rw [List.getElem?_append_right (by simp [hP]; omega)]
      simp only [List.length_map, hP]
      rw [show len0 + 2 + k - len0 = k + 1 + 1 by omega, List.getElem?_cons_succ, List.getElem?_cons_succ, List.getElem?_append_left (by simp; omega), List.getElem?_map, List.getElem?_eq_getElem (by omega)]
      simp [List.getD_eq_getElem?_getD, List.getElem?_eq_getElem (show k < D.length by omega)])
    simpa [Addr.add_lit] using this

set_option maxHeartbeats 400000 in
theorem bytes_ok (a0 a3 : Option Addr) (len0 cap0 len3 cap3 : Nat) (a1 a2 : Int) (w : World) (h : len0 + len3 ≤ 1048576) :
    Calls Try.prog 6 #[.slice a0 len0 cap0, .int .u16 a1, .int .u8 a2, .slice a3 len3 cap3] w fun e w' => e = .returned (.bool true) ∧ w = w' := by
  go_enter Try.func6, Try.ntmps6
  go_wp2
  go_ret
  exact ⟨rfl, rfl⟩

set_option maxHeartbeats 400000 in
theorem law_big (a0 a3 : Option Addr) (len0 cap0 len3 cap3 : Nat) (a1 a2 : Int) (w : World) (h : 1048570 < len0 + len3) (hm0 : len0 ≤ maxLen) (hm3 : len3 ≤ maxLen) :
    Calls Try.prog 3 #[.slice a0 len0 cap0, .int .u16 a1, .int .u8 a2, .slice a3 len3 cap3] w fun e w' => e = .returned (.bool true) ∧ w = w' := by
  unfold maxLen at hm0 hm3
  by_cases h0 : 1048576 < len0
  · go_enter Try.func3, Try.ntmps3
    go_wp2
    go_ret
    exact ⟨rfl, rfl⟩
  by_cases h3 : 1048576 < len3
  · go_enter Try.func3, Try.ntmps3
    go_wp2
    go_ret
    exact ⟨rfl, rfl⟩
  by_cases hs : 1048576 < len0 + len3
  · go_enter Try.func3, Try.ntmps3
    go_wp2
    go_ret
    exact ⟨rfl, rfl⟩
  · go_enter Try.func3, Try.ntmps3
    go_wp2
    go_ret
    exact ⟨rfl, rfl⟩

set_option maxHeartbeats 400000 in
theorem law_small (a0 a3 : Option Addr) (len0 cap0 len3 cap3 : Nat) (a1 a2 : Int) (w : World) (h : len0 + len3 ≤ 1048570) (hu0 : 0 ≤ a1) (hu1 : a1 ≤ 65535) (hm0 : 0 ≤ a2) (hm1 : a2 ≤ 255)
   (P S : List Int) (hP : P.length = len0) (hS : S.length = len3)
   (h0n : a0 = none → len0 = 0 ∧ cap0 = 0) (h3n : a3 = none → len3 = 0 ∧ cap3 = 0)
   (h0c : ∀ ad, a0 = some ad → ∀ j u, (P.map (Value.int .u8))[j]? = some u → w.cell? (ad.add j) = some u)
   (h3c : ∀ ad, a3 = some ad → ∀ j u, (S.map (Value.int .u8))[j]? = some u → w.cell? (ad.add j) = some u) :
    Calls Try.prog 3 #[.slice a0 len0 cap0, .int .u16 a1, .int .u8 a2, .slice a3 len3 cap3] w fun e w' => e = .returned (.bool true) ∧ Below w.heap.size w w' := by
  obtain ⟨i0, hi, hz0, hz1, hz2⟩ := info_parts Try.info5
  go_enter Try.func3, Try.ntmps3
  go_wp2_with (first | (go_at_call 6; refine (bytes_ok _ _ _ _ _ _ _ _ _ (by omega)).mono ?_; rintro e w' ⟨rfl, rfl⟩) | (at_make; refine wpList_make_own _ rfl _ _ 22 rfl w.heap.size 5 i0 (.int .u8 0) 1 Try.underlying22 hi hz0 hz1 _ _ _ (len0 + 6 + len3) rfl rfl (by omega) (by rw [hz2]; omega) (by unfold maxLen; omega) (Nat.le_refl _) ?_))
  intro w1 hown hgrow
  go_wp2_with (at_builtin; refine wpList_append_fits_any _ rfl (.tmp 43) (.tmp 44) 22 rfl w.heap.size 5 i0 1 Try.underlying22 hi hz1 w.heap.size 0 _ _ rfl hown a0 len0 cap0 (P.map (Value.int .u8)) rfl (by simp [hP]) h0n (fun ad had j u hu => hgrow.cell (h0c ad had j u hu) (by simp)) (ints_oneCell _ _) (by omega) ?_)
  intro w2 hown2 hgrow2
  have hown3 := hown2.alloc (.cells #[.int .u8 92, .int .u8 117] 5)
  have hbel3 : Below w.heap.size w w2 := ((Below.refl _ _).grown hgrow (Nat.le_refl _) (by simp)).grown hgrow2 hgrow.size (by simp)
  have hbel3' := hbel3.alloc hbel3.size (.cells #[.int .u8 92, .int .u8 117] 5)
  clear hown2
  go_wp2_with (at_builtin; go_loud (refine wpList_append_fits_any _ rfl (.tmp 46) (.tmp 47) 22 rfl w.heap.size 5 i0 1 Try.underlying22 hi hz1 w.heap.size len0 _ _ rfl hown3 (some ⟨w2.heap.size, 0, none⟩) 2 2 [.int .u8 92, .int .u8 117] rfl rfl (by simp) (fun ad had => by obtain rfl := Option.some.inj had; exact cells_new _ _ _) (ints_oneCell .u8 [92, 117]) (by omega) ?_))
  intro w3 hown4 hgrow4
  have hbel4 := hbel3'.grown hgrow4 hbel3'.size (by simp)
  clear hown hown3 hgrow hgrow2 hbel3 hbel3' hgrow4
  go_wp2_with fail
  go_loopw [9, 10] (fun t i wr => ∃ k m : Nat, k ≤ 4 ∧ m ≤ len0 + 2 + k ∧ len0 + 2 + k ≤ m ∧ i = .int .i64 k ∧ t = .slice (some ⟨w.heap.size, 0, none⟩) m (len0 + 6 + len3) ∧ Below w.heap.size w wr ∧ ∃ D : List Int, D.length = k ∧ (∀ j, j < k → HexDig (D.getD j 0) (nib a1 j)) ∧ wr.ownsRow w.heap.size 5 1 (.slice (some ⟨w.heap.size, 0, none⟩) m (len0 + 6 + len3)) m ((P ++ [92, 117] ++ D).map (Value.int .u8))) (fun _ i _ => 4 - (intOf i).toNat)
  case atStart => exact ⟨0, len0 + 2, by omega, by omega, by omega, rfl, rfl, hbel4, [], rfl, by simp, by simpa using hown4⟩
  case round =>
    obtain ⟨k, m, hk, hm1, hm2, rfl, rfl, hbel, D, hD, hdig, hown⟩ := hrel
    clear hown4 hbel4
    by_cases hlt : k < 4
    · obtain ⟨x, hx0, hx1, hx2⟩ : ∃ x : Int, 0 ≤ x ∧ x ≤ 65535 ∧ (k = 0 ∧ x = a1 / 4096 ∨ k = 1 ∧ x = a1 / 256 ∨ k = 2 ∧ x = a1 / 16 ∨ k = 3 ∧ x = a1) := by
        rcases (show k = 0 ∨ k = 1 ∨ k = 2 ∨ k = 3 by omega) with rfl | rfl | rfl | rfl
        · exact ⟨a1 / 4096, by omega, by omega, by simp⟩
        · exact ⟨a1 / 256, by omega, by omega, by simp⟩
        · exact ⟨a1 / 16, by omega, by omega, by simp⟩
        · exact ⟨a1, by omega, by omega, by simp⟩
      obtain ⟨n, hn, hna, hnn⟩ := and15 x hx0 hx1
      have r1 := run_up n hn
      have r2 := run_lo n hn
      have HN : Hid ((n : Int) = nib a1 k) := by
        rcases hx2 with ⟨rfl, rfl⟩ | ⟨rfl, rfl⟩ | ⟨rfl, rfl⟩ | ⟨rfl, rfl⟩ <;> exact hnn
      have HD : Hid (D.length = k) := hD
      have HU := dig_step (nib a1) D k hD hdig _ _ (upC_hex n hn) HN
      have HL := dig_step (nib a1) D k hD hdig _ _ (loC_hex n hn) HN
      obtain ⟨kk, HK⟩ : ∃ kk : Nat, Hid (kk = k + 1) := ⟨k + 1, rfl⟩
      clear hnn hdig hD
      rcases hx2 with ⟨rfl, rfl⟩ | ⟨rfl, rfl⟩ | ⟨rfl, rfl⟩ | ⟨rfl, rfl⟩
      all_goals
        go_wp2_with (first | (at_builtin; refine wpList_append_fits_any _ rfl (.tmp 67) (.tmp 70) 22 rfl w.heap.size 5 i0 1 Try.underlying22 hi hz1 w.heap.size m _ _ rfl (hown.alloc _) (some ⟨wr.heap.size, 0, none⟩) 1 1 [.int .u8 (upC n)] rfl rfl (by simp) (fun ad had => by obtain rfl := Option.some.inj had; exact cells_new _ _ _) (ints_oneCell .u8 [upC n]) (by omega) ?_) | (at_builtin; refine wpList_append_fits_any _ rfl (.tmp 72) (.tmp 75) 22 rfl w.heap.size 5 i0 1 Try.underlying22 hi hz1 w.heap.size m _ _ rfl (hown.alloc _) (some ⟨wr.heap.size, 0, none⟩) 1 1 [.int .u8 (loC n)] rfl rfl (by simp) (fun ad had => by obtain rfl := Option.some.inj had; exact cells_new _ _ _) (ints_oneCell .u8 [loC n]) (by omega) ?_))
        all_goals
          intro w5 hown5 hgrow5
          have hbel5 := (hbel.alloc hbel.size _).grown hgrow5 (hbel.alloc hbel.size _).size (by simp)
          clear hgrow5 hown
          go_wp2
          go_roundw
          case rel =>
            have ek := HK.out
            have eD := HD.out
            first
              | exact ⟨kk, m + 1, by omega, by omega, by omega, by rw [ek]; rfl, rfl, hbel5, D ++ [upC n], by rw [List.length_append, eD, ek]; rfl, by rw [ek]; exact HU, by simpa using hown5⟩
              | exact ⟨kk, m + 1, by omega, by omega, by omega, by rw [ek]; rfl, rfl, hbel5, D ++ [loC n], by rw [List.length_append, eD, ek]; rfl, by rw [ek]; exact HL, by simpa using hown5⟩
          case measure => simp [intOf]
    · obtain rfl : k = 4 := by omega
      obtain rfl : m = len0 + 6 := by omega
      go_wp2_with (at_builtin; refine wpList_append_fits_any _ rfl (.tmp 77) (.tmp 78) 22 rfl w.heap.size 5 i0 1 Try.underlying22 hi hz1 w.heap.size _ _ _ rfl hown a3 len3 cap3 (S.map (Value.int .u8)) rfl (by simp [hS]) h3n (fun ad had j u hu => (hbel.cell (World.block_lt_of_cell? w _ (h3c ad had j u hu))).trans (h3c ad had j u hu)) (ints_oneCell _ _) (by omega) ?_)
      intro w5 hown5 hgrow5
      have hbel5 := hbel.grown hgrow5 hbel.size (by simp)
      obtain ⟨t0, t1, t2⟩ := text_cells (S := S) hP hD (by simpa using hown5)
      have hlt5 : w.heap.size < w5.heap.size := (hown5.lt _ rfl).2
      go_wp2_with fail
      refine (zz_yes (len0 + 6 + len3) (len0 + 6 + len3) w.heap.size 0 len0 w5 hlt5 (by omega) (by omega) (Nat.le_refl _) t0 t1 (fun k => D.getD k 0) (nib a1) t2 (nib_bd a1) hdig).mono ?_
      rintro e w6 ⟨rfl, hb6⟩
      rw [acc_nib a1 hu0 hu1]
      have t1' := (hb6.cell (p := ⟨w.heap.size, 0 + (len0 + 1), none⟩) hlt5).trans t1
      have hlt6 : w.heap.size < w6.heap.size := Nat.lt_of_lt_of_le hlt5 hb6.size
      have hbel6 := hbel5.trans (hb6.mono hbel5.size)
      clear t0 t1 t2 hdig hown hown5 hgrow5 hb6 h0c h3c h0n h3n
      by_cases h3 : len3 = 0
      · go_wp2_with fail
        refine (zz_short _ _ _ _ _ _ ?_ ?_ ?_ ?_).mono ?_
        · omega
        · omega
        · omega
        · omega
        rintro e w7 ⟨rfl, hb7⟩
        go_wp2
        go_ret
        exact ⟨rfl, hbel6.trans (hb7.mono hbel6.size)⟩
      · go_wp2_with fail
        refine (zz_no (len0 + 6 + len3) (len0 + 6 + len3) w.heap.size 0 (len0 + 1) w6 hlt6 (by omega) (by omega) 117 t1' rfl).mono ?_
        rintro e w7 ⟨rfl, hb7⟩
        go_wp2
        go_ret
        exact ⟨rfl, hbel6.trans (hb7.mono hbel6.size)⟩
end Go.Proofs.Qxb6603893a
