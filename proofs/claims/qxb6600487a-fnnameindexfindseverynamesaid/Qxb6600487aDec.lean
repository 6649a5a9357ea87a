/-
  The plain law of decimal names: no Go in sight. 'digs': a positive number's digits; 'itoa': a number's text; 'val': a text's value; 'dec': the value of a decimal name as integer names are written; it is what 'itoa' turns back.
-/
namespace Go.Proofs.Qxb6600487a.Dec

def digsF : Nat → Nat → List Nat
  | 0, _ => []
  | f + 1, k => if k = 0 then [] else digsF f (k / 10) ++ [48 + k % 10]

def digs (k : Nat) : List Nat := digsF k k

theorem digsF_enough : ∀ (f g k : Nat), k ≤ f → k ≤ g → digsF f k = digsF g k
  | 0, 0, _, _, _ => rfl
  | 0, g + 1, k, hf, _ => by obtain rfl : k = 0 := by omega
                             simp [digsF]
  | f + 1, 0, k, _, hg => by obtain rfl : k = 0 := by omega
                             simp [digsF]
  | f + 1, g + 1, k, hf, hg => by
    simp only [digsF]
    by_cases h : k = 0
    · simp [h]
    · rw [if_neg h, if_neg h, digsF_enough f g (k / 10) (by omega) (by omega)]

theorem digs_zero : digs 0 = [] := rfl
theorem digs_pos {k : Nat} (h : 0 < k) : digs k = digs (k / 10) ++ [48 + k % 10] := by
  unfold digs
  obtain ⟨f, rfl⟩ : ∃ f, k = f + 1 := ⟨k - 1, by omega⟩
  rw [digsF, if_neg (by omega), digsF_enough f ((f + 1) / 10) ((f + 1) / 10) (by omega) (Nat.le_refl _)]

theorem digs_ne_nil {k : Nat} (h : 0 < k) : digs k ≠ [] := by rw [digs_pos h]; simp

/-- The first digit of a positive number is no nought. -/
theorem digs_head : ∀ (n k : Nat), k ≤ n → 0 < k → ∃ c r, digs k = c :: r ∧ c ≠ 48
  | 0, k, h, h0 => by omega
  | n + 1, k, h, h0 => by
    rw [digs_pos h0]
    by_cases hk : k / 10 = 0
    · refine ⟨48 + k % 10, [], by rw [hk]; rfl, by omega⟩
    · obtain ⟨c, r, e, hc⟩ := digs_head n (k / 10) (by omega) (by omega)
      exact ⟨c, r ++ [48 + k % 10], by rw [e]; rfl, hc⟩

def itoa (k : Nat) : List Nat := if k = 0 then [48] else digs k

def val (u : List Nat) : Nat := u.foldl (fun a c => a * 10 + (c - 48)) 0
theorem val_snoc (u : List Nat) (c : Nat) : val (u ++ [c]) = val u * 10 + (c - 48) := by simp [val, List.foldl_append]
theorem val_nil : val [] = 0 := rfl

def isDig (c : Nat) : Bool := decide (48 ≤ c) && decide (c ≤ 57)

theorem val_lt : ∀ (n : Nat) (u : List Nat), u.length = n → u.all isDig = true → val u < 10 ^ n
  | 0, u, hl, _ => by obtain rfl := List.eq_nil_of_length_eq_zero hl
                      simp [val]
  | n + 1, u, hl, hu => by
    rcases List.eq_nil_or_concat u with rfl | ⟨u', c, rfl⟩
    · simp at hl
    · rw [List.concat_eq_append] at *
      simp only [List.length_append, List.length_singleton] at hl
      rw [List.all_append] at hu
      simp only [Bool.and_eq_true, List.all_cons, List.all_nil, Bool.and_true, isDig, decide_eq_true_eq] at hu
      have := val_lt n u' (by omega) (by simpa [isDig] using hu.1)
      rw [val_snoc, Nat.pow_succ]
      omega

theorem val_pos : ∀ (n : Nat) (u : List Nat), u.length = n → u.all isDig = true → (∃ c r, u = c :: r ∧ c ≠ 48) → 0 < val u
  | 0, u, hl, _, ⟨c, r, e, _⟩ => by rw [e] at hl; simp at hl
  | n + 1, u, hl, hu, ⟨c0, r0, e0, h0⟩ => by
    rcases List.eq_nil_or_concat u with rfl | ⟨u', c, rfl⟩
    · simp at e0
    · rw [List.concat_eq_append] at *
      simp only [List.length_append, List.length_singleton] at hl
      rw [List.all_append] at hu
      simp only [Bool.and_eq_true, List.all_cons, List.all_nil, Bool.and_true] at hu
      rw [val_snoc]
      cases u' with
      | nil =>
        simp only [List.nil_append, List.cons.injEq] at e0
        obtain ⟨rfl, _⟩ := e0
        simp only [isDig, Bool.and_eq_true, decide_eq_true_eq] at hu
        omega
      | cons d r =>
        simp only [List.cons_append, List.cons.injEq] at e0
        have := val_pos n (d :: r) (by omega) hu.1 ⟨d, r, rfl, by rw [e0.1]; exact h0⟩
        omega

/-- A text of digits that does not open with nought is what its value prints as. -/
theorem digs_val : ∀ (n : Nat) (u : List Nat), u.length = n → u.all isDig = true → (∃ c r, u = c :: r ∧ c ≠ 48) → digs (val u) = u
  | 0, u, hl, _, ⟨c, r, e, _⟩ => by rw [e] at hl; simp at hl
  | n + 1, u, hl, hu, hh => by
    have hp := val_pos (n + 1) u hl hu hh
    obtain ⟨c0, r0, e0, h0⟩ := hh
    rcases List.eq_nil_or_concat u with rfl | ⟨u', c, rfl⟩
    · simp at e0
    · rw [List.concat_eq_append] at *
      simp only [List.length_append, List.length_singleton] at hl
      rw [List.all_append] at hu
      simp only [Bool.and_eq_true, List.all_cons, List.all_nil, Bool.and_true] at hu
      have hc : 48 ≤ c ∧ c ≤ 57 := by simpa [isDig] using hu.2
      rw [digs_pos hp, val_snoc]
      rw [show (val u' * 10 + (c - 48)) / 10 = val u' by omega, show 48 + (val u' * 10 + (c - 48)) % 10 = c by omega]
      cases u' with
      | nil => rw [val_nil, digs_zero]
      | cons d r =>
        simp only [List.cons_append, List.cons.injEq] at e0
        rw [digs_val n (d :: r) (by omega) hu.1 ⟨d, r, rfl, by rw [e0.1]; exact h0⟩]

/-- The value of a decimal name as integer names are written: one to nine digits, no leading nought. -/
def dec (u : List Nat) : Option Nat :=
  if u.length = 0 ∨ 9 < u.length ∨ (u.head? = some 48 ∧ 1 < u.length) then none else if u.all isDig then some (val u) else none

theorem dec_itoa {u : List Nat} {k : Nat} (h : dec u = some k) : itoa k = u ∧ k < 1000000000 := by
  unfold dec at h
  split at h
  · cases h
  · rename_i hn
    split at h
    · rename_i hd
      cases h
      refine ⟨?_, ?_⟩
      · cases u with
        | nil => simp at hn
        | cons c r =>
          unfold itoa
          by_cases hc : c = 48
          · subst hc
            cases r with
            | nil => rfl
            | cons d r => simp at hn
          · have hp := val_pos _ (c :: r) rfl hd ⟨c, r, rfl, hc⟩
            rw [if_neg (by omega)]
            exact digs_val _ (c :: r) rfl hd ⟨c, r, rfl, hc⟩
      · have := val_lt _ u rfl hd
        have h9 : u.length ≤ 9 := by omega
        have : 10 ^ u.length ≤ 10 ^ 9 := Nat.pow_le_pow_right (by omega) h9
        omega
    · cases h

/-- Where a text of one to nine digits is no integer name, its value prints as another text. -/
theorem itoa_ne {u : List Nat} (h1 : u.length ≠ 0) (h9 : u.length ≤ 9) (hd : u.all isDig = true) (h : dec u = none) : itoa (val u) ≠ u := by
  unfold dec at h
  split at h
  · rename_i hc
    have hz : u.head? = some 48 ∧ 1 < u.length := by
      rcases hc with hc | hc | hc
      · exact absurd hc h1
      · omega
      · exact hc
    cases u with
    | nil => simp at h1
    | cons c r =>
      simp only [List.head?_cons, Option.some.injEq, List.length_cons] at hz
      obtain ⟨rfl, hr⟩ := hz
      intro e
      unfold itoa at e
      split at e
      · cases r with
        | nil => simp at hr
        | cons _ _ => simp at e
      · rename_i hv
        obtain ⟨c, r', e', hc'⟩ := digs_head _ (val (48 :: r)) (Nat.le_refl _) (by omega)
        rw [e'] at e
        simp only [List.cons.injEq] at e
        exact hc' e.1
  · cases h

theorem dec_inj {u v : List Nat} {k : Nat} (h : dec u = some k) (h' : dec v = some k) : u = v := by
  rw [← (dec_itoa h).1, (dec_itoa h').1]

end Go.Proofs.Qxb6600487a.Dec
