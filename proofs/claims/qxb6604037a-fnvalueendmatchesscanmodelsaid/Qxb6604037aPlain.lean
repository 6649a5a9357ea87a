/-
  The plain scans behind 'FnValueEndMatchesScanModel': no Go in sight. 'X': the bytes by their index, 'n': how many.
  'st': just past the quote that ends a string ('esc': an odd run of backslashes stands right before); 'br': the flat automaton over brackets; 'dl': the first delimiter; 'vend': the end of the value.
-/
namespace Go.Proofs.Qxb6604037a.Plain

def stF (X : Nat → Int) (n : Nat) : Nat → Nat → Bool → Nat
  | 0, _, _ => n
  | f + 1, p, esc => if esc then stF X n f (p + 1) false else if X p == 34 then p + 1 else stF X n f (p + 1) (X p == 92)

def st (X : Nat → Int) (n p : Nat) (esc : Bool) : Nat := stF X n (n - p) p esc

section
variable {X : Nat → Int} {n p : Nat}

theorem st_end (esc : Bool) (h : n ≤ p) : st X n p esc = n := by
  unfold st; rw [show n - p = 0 by omega]; rfl

theorem st_step (esc : Bool) (h : p < n) : st X n p esc = if esc then st X n (p + 1) false else if X p == 34 then p + 1 else st X n (p + 1) (X p == 92) := by
  unfold st; rw [show n - p = (n - (p + 1)) + 1 by omega]; rfl

theorem st_esc (h : p < n) : st X n p true = st X n (p + 1) false := by rw [st_step _ h]; simp
theorem st_quote (h : p < n) (k : (X p == 34) = true) : st X n p false = p + 1 := by rw [st_step _ h]; simp [k]
theorem st_back (h : p < n) (k : (X p == 34) = false) (k' : (X p == 92) = true) : st X n p false = st X n (p + 1) true := by rw [st_step _ h]; simp [k, k']
theorem st_other (h : p < n) (k : (X p == 34) = false) (k' : (X p == 92) = false) : st X n p false = st X n (p + 1) false := by rw [st_step _ h]; simp [k, k']

theorem stF_le (f : Nat) : ∀ (p : Nat) (esc : Bool), f = n - p → p ≤ n → p ≤ stF X n f p esc ∧ stF X n f p esc ≤ n := by
  induction f with
  | zero => intro p esc hf hp; simp only [stF]; omega
  | succ f ih =>
    intro p esc hf hp
    simp only [stF]
    split
    · have := ih (p + 1) false (by omega) (by omega); omega
    · split
      · omega
      · have := ih (p + 1) (X p == 92) (by omega) (by omega); omega

theorem st_le (esc : Bool) (h : p ≤ n) : p ≤ st X n p esc ∧ st X n p esc ≤ n := stF_le _ p esc rfl h
end

def brF (X : Nat → Int) (n : Nat) : Nat → Nat → Int → Bool → Bool → Nat
  | 0, _, _, _, _ => n
  | f + 1, p, d, true, esc => if esc then brF X n f (p + 1) d true false else if X p == 34 then brF X n f (p + 1) d false false else brF X n f (p + 1) d true (X p == 92)
  | f + 1, p, d, false, _ =>
    if X p == 34 then brF X n f (p + 1) d true false
    else if X p == 123 || X p == 91 then brF X n f (p + 1) (d + 1) false false
    else if X p == 125 || X p == 93 then (if d - 1 == 0 then p + 1 else brF X n f (p + 1) (d - 1) false false)
    else brF X n f (p + 1) d false false

def br (X : Nat → Int) (n p : Nat) (d : Int) (ins esc : Bool) : Nat := brF X n (n - p) p d ins esc

section
variable {X : Nat → Int} {n p : Nat} {d : Int}

theorem br_end (ins esc : Bool) (h : n ≤ p) : br X n p d ins esc = n := by
  unfold br; rw [show n - p = 0 by omega]; cases ins <;> rfl

theorem br_in (esc : Bool) (h : p < n) : br X n p d true esc = if esc then br X n (p + 1) d true false else if X p == 34 then br X n (p + 1) d false false else br X n (p + 1) d true (X p == 92) := by
  unfold br; rw [show n - p = (n - (p + 1)) + 1 by omega]; rfl

theorem br_out (esc : Bool) (h : p < n) : br X n p d false esc =
    if X p == 34 then br X n (p + 1) d true false
    else if X p == 123 || X p == 91 then br X n (p + 1) (d + 1) false false
    else if X p == 125 || X p == 93 then (if d - 1 == 0 then p + 1 else br X n (p + 1) (d - 1) false false)
    else br X n (p + 1) d false false := by
  unfold br; rw [show n - p = (n - (p + 1)) + 1 by omega]; rfl

theorem br_esc_out (e e' : Bool) : br X n p d false e = br X n p d false e' := by
  by_cases h : p < n
  · rw [br_out e h, br_out e' h]
  · rw [br_end _ _ (by omega), br_end _ _ (by omega)]

/-- In a string the automaton goes to just past its end, and out of it. -/
theorem br_strF (f : Nat) : ∀ (p : Nat) (esc : Bool), f = n - p → br X n p d true esc = br X n (st X n p esc) d false false := by
  induction f with
  | zero => intro p esc hf; rw [br_end _ _ (by omega), st_end _ (by omega), br_end _ _ (Nat.le_refl _)]
  | succ f ih =>
    intro p esc hf
    rw [br_in _ (show p < n by omega), st_step _ (show p < n by omega)]
    cases esc with
    | true => simp only [if_true]; exact ih (p + 1) false (by omega)
    | false =>
      simp only [Bool.false_eq_true, if_false]
      split
      · rfl
      · exact ih (p + 1) _ (by omega)

theorem br_str (esc : Bool) : br X n p d true esc = br X n (st X n p esc) d false false := br_strF _ p esc rfl

theorem br_quote (e : Bool) (h : p < n) (k : (X p == 34) = true) : br X n p d false e = br X n (p + 1) d true false := by rw [br_out _ h]; simp [k]
theorem br_open (e : Bool) (h : p < n) (k : (X p == 34) = false) (k' : (X p == 123 || X p == 91) = true) : br X n p d false e = br X n (p + 1) (d + 1) false false := by rw [br_out _ h]; simp only [k, k']; simp
theorem br_close (e : Bool) (h : p < n) (k : (X p == 34) = false) (k' : (X p == 123 || X p == 91) = false) (k2 : (X p == 125 || X p == 93) = true) (hd : (d - 1 == 0) = false) : br X n p d false e = br X n (p + 1) (d - 1) false false := by
  rw [br_out _ h]; simp only [k, k', k2, hd]; simp
theorem br_last (e : Bool) (h : p < n) (k : (X p == 34) = false) (k' : (X p == 123 || X p == 91) = false) (k2 : (X p == 125 || X p == 93) = true) (hd : (d - 1 == 0) = true) : br X n p d false e = p + 1 := by
  rw [br_out _ h]; simp only [k, k', k2, hd]; simp
theorem br_plain (e : Bool) (h : p < n) (k : (X p == 34) = false) (k' : (X p == 123 || X p == 91) = false) (k2 : (X p == 125 || X p == 93) = false) : br X n p d false e = br X n (p + 1) d false false := by
  rw [br_out _ h]; simp only [k, k', k2]; simp
theorem bi_esc (h : p < n) : br X n p d true true = br X n (p + 1) d true false := by rw [br_in _ h]; simp
theorem bi_quote (h : p < n) (k : (X p == 34) = true) : br X n p d true false = br X n (p + 1) d false false := by rw [br_in _ h]; simp [k]
theorem bi_back (h : p < n) (k : (X p == 34) = false) (k' : (X p == 92) = true) : br X n p d true false = br X n (p + 1) d true true := by rw [br_in _ h]; simp [k, k']
theorem bi_other (h : p < n) (k : (X p == 34) = false) (k' : (X p == 92) = false) : br X n p d true false = br X n (p + 1) d true false := by rw [br_in _ h]; simp [k, k']
end

/-- A delimiter of a number or a literal. -/
def dl (c : Int) : Bool := c == 44 || c == 125 || c == 93 || c == 32 || c == 9 || c == 10 || c == 13

def dlF (X : Nat → Int) (n : Nat) : Nat → Nat → Nat
  | 0, _ => n
  | f + 1, p => if dl (X p) then p else dlF X n f (p + 1)

def dlAt (X : Nat → Int) (n p : Nat) : Nat := dlF X n (n - p) p

theorem dl_end {X : Nat → Int} {n p : Nat} (h : n ≤ p) : dlAt X n p = n := by unfold dlAt; rw [show n - p = 0 by omega]; rfl
theorem dl_step {X : Nat → Int} {n p : Nat} (h : p < n) : dlAt X n p = if dl (X p) then p else dlAt X n (p + 1) := by
  unfold dlAt; rw [show n - p = (n - (p + 1)) + 1 by omega]; rfl
theorem dl_hit {X : Nat → Int} {n p : Nat} (h : p < n) (k : dl (X p) = true) : dlAt X n p = p := by rw [dl_step h]; simp [k]
theorem dl_miss {X : Nat → Int} {n p : Nat} (h : p < n) (k : dl (X p) = false) : dlAt X n p = dlAt X n (p + 1) := by rw [dl_step h]; simp [k]

theorem dl_cases (c : Int) : (dl c = true ∧ ((c == 44) = true ∨ ((c == 44) = false ∧ (c == 125) = true) ∨ ((c == 44) = false ∧ (c == 125) = false ∧ (c == 93) = true) ∨ ((c == 44) = false ∧ (c == 125) = false ∧ (c == 93) = false ∧ (c == 32) = true) ∨
    ((c == 44) = false ∧ (c == 125) = false ∧ (c == 93) = false ∧ (c == 32) = false ∧ (c == 9) = true) ∨ ((c == 44) = false ∧ (c == 125) = false ∧ (c == 93) = false ∧ (c == 32) = false ∧ (c == 9) = false ∧ (c == 10) = true) ∨
    ((c == 44) = false ∧ (c == 125) = false ∧ (c == 93) = false ∧ (c == 32) = false ∧ (c == 9) = false ∧ (c == 10) = false ∧ (c == 13) = true))) ∨
    (dl c = false ∧ (c == 44) = false ∧ (c == 125) = false ∧ (c == 93) = false ∧ (c == 32) = false ∧ (c == 9) = false ∧ (c == 10) = false ∧ (c == 13) = false) := by
  unfold dl
  cases c == 44 <;> cases c == 125 <;> cases c == 93 <;> cases c == 32 <;> cases c == 9 <;> cases c == 10 <;> cases c == 13 <;> simp

/-- The end of the value at i. -/
def vend (X : Nat → Int) (n i : Nat) : Nat :=
  if n ≤ i then n else if X i == 34 then st X n (i + 1) false else if X i == 123 || X i == 91 then br X n i 0 false false else dlAt X n i

end Go.Proofs.Qxb6604037a.Plain
