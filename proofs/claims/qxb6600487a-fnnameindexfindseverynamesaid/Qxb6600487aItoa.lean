import Derived.Test.Qxb6600487aDecimal
namespace Go.Proofs.Qxb6600487a
open Go.RowKit Dec
set_option linter.unusedVariables false

set_option maxHeartbeats 400000 in
theorem itoa_zero (w : World) : Calls Try.prog 34 #[.int .i64 0] w fun e w' => e = .returned (.string ⟨#[48]⟩) ∧ w = w' := by
  go_enter Try.func34, Try.ntmps34
  go_wp2
  go_ret
  exact ⟨rfl, rfl⟩

theorem steps_left {k t : Nat} (h : k * 10 ^ t < 1000000000) (hk : 0 < k) : t ≤ 8 := by
  rcases Nat.lt_or_ge t 9 with h' | h'
  · omega
  · have h1 : 10 ^ 9 ≤ 10 ^ t := Nat.pow_le_pow_right (by omega) h'
    have h2 : 1 * 10 ^ t ≤ k * 10 ^ t := Nat.mul_le_mul_right _ hk
    omega
theorem steps_next {k t : Nat} (h : k * 10 ^ t < 1000000000) : (k / 10) * 10 ^ (t + 1) < 1000000000 := by
  rw [Nat.pow_succ, Nat.mul_comm (10 ^ t), ← Nat.mul_assoc]
  have h1 : k / 10 * 10 ≤ k := by omega
  have h2 : k / 10 * 10 * 10 ^ t ≤ k * 10 ^ t := Nat.mul_le_mul_right _ h1
  omega

/-- A row of bytes whose cells from i on are S. -/
def Tail (wr : World) (g i : Nat) (S : List UInt8) : Prop := ∃ cur : Array Value, wr.heap[g]? = some (.cells cur 66 (0, 0)) ∧ cur.size = 20 ∧ ∀ j (hj : j < S.length), cur[i + j]? = some (.int .u8 (S[j].toNat : Int))

theorem Tail.cell {wr : World} {g i : Nat} {S : List UInt8} (h : Tail wr g i S) (j : Nat) (hj : j < 20) : ∃ v, wr.cell? ⟨g, j, none⟩ = some v := by
  obtain ⟨cur, h1, h2, _⟩ := h
  rw [cell_of_row wr g j cur 66 _ h1, Array.getElem?_eq_getElem (by omega)]
  exact ⟨_, rfl⟩
theorem Tail.frozen {wr : World} {g i : Nat} {S : List UInt8} (h : Tail wr g i S) (j : Nat) : wr.frozen? ⟨g, j, none⟩ = false := by
  obtain ⟨cur, h1, _⟩ := h
  exact frozen_of_row wr g j cur 66 h1
theorem Tail.put {wr : World} {g i : Nat} {S : List UInt8} (h : Tail wr g (i + 1) S) (hi : i < 20) (c : UInt8) : Tail (wr.setCell ⟨g, i, none⟩ (.int .u8 (c.toNat : Int))) g i (c :: S) := by
  obtain ⟨cur, h1, h2, h3⟩ := h
  refine ⟨_, heap_setCell_same wr g i cur 66 _ h1, by simpa using h2, fun j hj => ?_⟩
  cases j with
  | zero => simp [h2, hi]
  | succ j =>
    have := h3 j (by simpa using hj)
    rw [Array.getElem?_setIfInBounds_ne (by omega), show i + (j + 1) = i + 1 + j by omega, this]
    simp

theorem conv_tail {wr : World} {g i cap : Nat} {S : List UInt8} (h : Tail wr g i S) : (convert 22 9 (.slice (some ⟨g, i, none⟩) S.length cap)).run Try.prog wr = .ok (.string ⟨S.toArray⟩) wr := by
  obtain ⟨cur, h1, h2, h3⟩ := h
  refine run_convert_bytes_back (P := Try.prog) wr 22 9 5 ⟨g, i, none⟩ cap S Try.underlying22 Try.underlying5 Try.underlying9 (fun j hj => ?_)
  rw [Addr.add_lit, cell_of_row wr g (i + j) cur 66 _ h1]
  exact h3 j hj

theorem run_cut (g p : Nat) (hp : p < 20) (w : World) : (Instr.sliceAt 66 (.pointer (some ⟨g, 0, none⟩)) (some (.int .i64 (p : Int))) none none).run Try.prog w = .ok (.slice (some ⟨g, p, none⟩) (20 - p) (20 - p)) w := by
  obtain ⟨i0, hi, hz0, hz1, hz2⟩ := info_parts (P := Try.prog) (e := 5) (z := .int .u8 0) (size := 1) (bytes := 1) (by kernel_rfl)
  have h1 : (0 : Int) ≤ (p : Int) ∧ (p : Int) ≤ (20 : Nat) := by omega
  have h2 : ¬ (20 = p) := by omega
  simp [Instr.sliceAt, run_underlying Try.underlying66, Instr.sureAddr, Instr.sliceBounds, Instr.sliceBound, asIntOf, h1, h2, sizeOf, typeInfo, hi, hz1, Addr.add_lit]
  omega

set_option maxHeartbeats 400000 in
theorem itoa_pos (k : Nat) (w : World) (h0 : 0 < k) (h9 : k < 1000000000) :
    Calls Try.prog 34 #[.int .i64 k] w fun e w' => ∃ S : List UInt8, e = .returned (.string ⟨S.toArray⟩) ∧ S.map UInt8.toNat = digs k ∧ Below w.heap.size w w' := by
  have hk0 : ((k : Int) == 0) = false := by simp; omega
  go_enter Try.func34, Try.ntmps34
  go_wp2
  go_loopw [0, 4] (fun a b wr => ∃ (m t : Nat) (S : List UInt8), a = .int .i64 m ∧ b = .int .i64 ((20 - t : Nat) : Int) ∧ t ≤ 9 ∧ m < 1000000000 ∧ Hid (m * 10 ^ t < 1000000000) ∧ Hid (S.length = t) ∧ Hid (digs k = digs m ++ S.map UInt8.toNat) ∧ Hid (Tail wr w.heap.size (20 - t) S) ∧ Below w.heap.size w wr) (fun a _ _ => (intOf a).toNat)
  case atStart =>
    refine ⟨k, 0, [], rfl, rfl, by omega, h9, by simpa [Hid] using h9, rfl, by simp [Hid], ⟨_, heap_alloc_new w _, rfl, fun j hj => by simp at hj⟩, (Below.refl _ _).alloc (Nat.le_refl _) _⟩
  case round =>
    obtain ⟨m, t, S, rfl, rfl, ht, hm, HT, HS, HD, HW, hb⟩ := hrel
    by_cases hlt : 0 < m
    · have ht8 := steps_left HT.out hlt
      obtain ⟨v0, hv0⟩ := HW.out.cell (20 - t - 1) (by omega)
      have hf0 := HW.out.frozen (20 - t - 1)
      obtain ⟨c, hc⟩ : ∃ c : UInt8, c.toNat = 48 + m % 10 := ⟨UInt8.ofNat (48 + m % 10), by simp [UInt8.toNat_ofNat]; omega⟩
      have HP : Hid (Tail (wr.setCell ⟨w.heap.size, 20 - t - 1, none⟩ (.int .u8 (c.toNat : Int))) w.heap.size (20 - t - 1) (c :: S)) := by
        refine Tail.put ?_ (by omega) c
        rw [show 20 - t - 1 + 1 = 20 - t by omega]; exact HW
      have HC : Hid ((c.toNat : Int) = 48 + (m : Int) % 10) := by show _ = _; omega
      have HD2 : Hid (digs k = digs (m / 10) ++ (c :: S).map UInt8.toNat) := by
        show _ = _
        rw [HD.out, digs_pos hlt, List.map_cons, hc]; simp
      have HT2 : Hid ((m / 10) * 10 ^ (t + 1) < 1000000000) := steps_next HT.out
      have hb2 : Below w.heap.size w (wr.setCell ⟨w.heap.size, 20 - t - 1, none⟩ (.int .u8 (c.toNat : Int))) := hb.setCell (Nat.le_refl _) _
      rw [HC.out] at HP hb2
      clear HD HT HW hc
      obtain ⟨p, hp⟩ : ∃ p : Nat, p = 20 - t - 1 := ⟨_, rfl⟩
      have HPP : Hid (p = 20 - t - 1) := hp
      rw [← hp] at hv0 hf0 HP hb2
      have hcast : ((20 - t : Nat) : Int) = (p : Int) + 1 := by omega
      have hpl : p < 20 := by omega
      rw [hcast]
      clear hp hcast
      go_wp2
      go_roundw
      case rel =>
        have ep := HPP.out
        have e2 : 20 - (t + 1) = p := by omega
        refine ⟨m / 10, t + 1, c :: S, by go_num, by rw [e2], by omega, by omega, HT2, ?_, HD2, ?_, hb2⟩
        · show _ = _; rw [List.length_cons, HS.out]
        · rw [e2]; exact HP
      case measure => simp [intOf]; omega
    · obtain rfl : m = 0 := by omega
      have HE : Hid (S.map UInt8.toNat = digs k) := by show _ = _; rw [HD.out, digs_zero]; rfl
      have hcv := fun cap => conv_tail (cap := cap) HW.out
      have HS2 := HS.out
      rw [HS2] at hcv
      clear HD HT
      obtain ⟨p, hp⟩ : ∃ p : Nat, p = 20 - t := ⟨_, rfl⟩
      have hpl : p ≤ 20 := by omega
      have htp : t = 20 - p := by omega
      have hpp : 11 ≤ p := by omega
      rw [← hp] at hcv ⊢
      rw [htp] at hcv
      have hp20 : p < 20 := by
        rcases Nat.lt_or_ge p 20 with h | h
        · exact h
        · exfalso
          have : S = [] := List.eq_nil_of_length_eq_zero (by rw [HS2]; omega)
          have he := HE.out
          rw [this] at he
          exact digs_ne_nil h0 he.symm
      have hct := run_cut w.heap.size p hp20
      clear hp htp HW HS HS2
      go_wp2
      go_ret
      exact ⟨S, rfl, HE.out, hb⟩
end Go.Proofs.Qxb6600487a
