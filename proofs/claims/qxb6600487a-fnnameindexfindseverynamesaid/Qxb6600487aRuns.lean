/-
  The plain law behind 'FnFieldIteratedSplitsAtWhiteRuns': where the runs of non-blank bytes start and end, told by filters over the indices; and that 'field' goes from one to the next. No walk in this text.
-/
import Derived.Test.Qxb6600487aField
namespace Go.Proofs.Qxb6600487a

section
variable (f : Nat → Bool)
def cnt (k : Nat) : Nat := ((List.range k).filter f).length

theorem cnt_succ (k : Nat) : cnt f (k + 1) = cnt f k + if f k then 1 else 0 := by
  unfold cnt
  rw [List.range_succ, List.filter_append, List.length_append]
  cases h : f k <;> simp [h]

theorem cnt_le (k : Nat) : cnt f k ≤ k := by
  unfold cnt
  have := List.length_filter_le f (List.range k)
  simpa using this

theorem cnt_mono {a b : Nat} (h : a ≤ b) : cnt f a ≤ cnt f b := by
  induction b with
  | zero => obtain rfl : a = 0 := by omega
            exact Nat.le_refl _
  | succ b ih =>
    by_cases e : a = b + 1
    · rw [e]; exact Nat.le_refl _
    · have := ih (by omega); rw [cnt_succ]; omega

theorem cnt_const {a b : Nat} (hab : a ≤ b) (h : ∀ p, a ≤ p → p < b → f p = false) : cnt f b = cnt f a := by
  induction b with
  | zero => obtain rfl : a = 0 := by omega
            rfl
  | succ b ih =>
    by_cases e : a = b + 1
    · rw [e]
    · rw [cnt_succ, h b (by omega) (by omega), ih (by omega) (fun p h1 h2 => h p h1 (by omega))]; simp

theorem nth {p n : Nat} (hp : p < n) (h : f p = true) : ((List.range n).filter f)[cnt f p]? = some p := by
  induction n with
  | zero => omega
  | succ n ih =>
    rw [List.range_succ, List.filter_append]
    by_cases e : p = n
    · subst e
      rw [List.getElem?_append_right (by unfold cnt; exact Nat.le_refl _)]
      simp [cnt, h]
    · have := ih (by omega)
      rw [List.getElem?_append_left (List.getElem?_eq_some_iff.1 this).1]
      exact this
end

/-- A run starts at p; a run's last byte is at p. -/
def isS (X : Nat → Int) (p : Nat) : Bool := !ws (X p) && (p == 0 || ws (X (p - 1)))
def isE (X : Nat → Int) (n p : Nat) : Bool := !ws (X p) && (p + 1 == n || ws (X (p + 1)))

def starts (X : Nat → Int) (k : Nat) : List Int := ((List.range k).filter (isS X)).map (fun p : Nat => (p : Int))
def ends (X : Nat → Int) (n k : Nat) : List Int := ((List.range k).filter (isE X n)).map (fun p : Nat => (p : Int) + 1)

theorem starts_succ (X : Nat → Int) (k : Nat) : starts X (k + 1) = if isS X k then starts X k ++ [(k : Int)] else starts X k := by
  unfold starts
  rw [List.range_succ, List.filter_append, List.map_append]
  cases h : isS X k <;> simp [h]
theorem ends_succ (X : Nat → Int) (n k : Nat) : ends X n (k + 1) = if isE X n k then ends X n k ++ [(k : Int) + 1] else ends X n k := by
  unfold ends
  rw [List.range_succ, List.filter_append, List.map_append]
  cases h : isE X n k <;> simp [h]

theorem starts_length (X : Nat → Int) (k : Nat) : (starts X k).length = cnt (isS X) k := by simp [starts, cnt]
theorem ends_length (X : Nat → Int) (n k : Nat) : (ends X n k).length = cnt (isE X n) k := by simp [ends, cnt]

/-- Between two fields: c is the head, the end, or a blank. -/
def Edge (X : Nat → Int) (n c : Nat) : Prop := c ≤ n ∧ (c = 0 ∨ c = n ∨ ws (X c) = true)

theorem over_white {X : Nat → Int} {n c : Nat} (hc : c ≤ n) (h : AllWs (fun u => X (c + u)) (n - c)) : cnt (isS X) n = cnt (isS X) c :=
  cnt_const _ hc fun p h1 h2 => by
    have := h (p - c) (by omega)
    simp only [show c + (p - c) = p by omega] at this
    simp [isS, this]

/-- One field on: its start and its end are the next of the two lists. -/
theorem one_on {X : Nat → Int} {n c i j t : Nat} (he : Edge X n c) (h : FieldAt (fun u => X (c + u)) (n - c) i j) (ht : t = cnt (isS X) c) (ht' : t = cnt (isE X n) c) :
    (starts X n)[t]? = some ((c + i : Nat) : Int) ∧ (ends X n n)[t]? = some ((c + j : Nat) : Int) ∧ Edge X n (c + j) ∧ t + 1 = cnt (isS X) (c + j) ∧ t + 1 = cnt (isE X n) (c + j) := by
  obtain ⟨hij, hjm, hw, hf, hl⟩ := h
  obtain ⟨hcn, hedge⟩ := he
  have white : ∀ p, c ≤ p → p < c + i → ws (X p) = true := fun p h1 h2 => by
    have := hw (p - c) (by omega); simpa [show c + (p - c) = p by omega] using this
  have black : ∀ p, c + i ≤ p → p < c + j → ws (X p) = false := fun p h1 h2 => by
    have := hf (p - c) (by omega) (by omega); simpa [show c + (p - c) = p by omega] using this
  have s1 : isS X (c + i) = true := by
    have hb := black (c + i) (Nat.le_refl _) (by omega)
    simp only [isS, hb, Bool.not_false, Bool.true_and, Bool.or_eq_true, beq_iff_eq]
    by_cases hi : i = 0
    · subst hi
      rcases hedge with e | e | e
      · left; omega
      · omega
      · rw [show c + 0 = c from rfl] at hb; rw [hb] at e; cases e
    · right; exact white (c + i - 1) (by omega) (by omega)
  have s0 : cnt (isS X) (c + i) = cnt (isS X) c := cnt_const _ (by omega) fun p h1 h2 => by simp [isS, white p h1 h2]
  have s2 : cnt (isS X) (c + j) = cnt (isS X) (c + i + 1) := cnt_const _ (by omega) fun p h1 h2 => by
    have := black (p - 1) (by omega) (by omega)
    simp [isS, this, show ¬ p = 0 by omega]
  have e0 : cnt (isE X n) (c + i) = cnt (isE X n) c := cnt_const _ (by omega) fun p h1 h2 => by simp [isE, white p h1 h2]
  have e1 : cnt (isE X n) (c + j - 1) = cnt (isE X n) (c + i) := cnt_const _ (by omega) fun p h1 h2 => by
    have := black (p + 1) (by omega) (by omega)
    simp [isE, this, show ¬ p + 1 = n by omega]
  have e2 : isE X n (c + j - 1) = true := by
    have hb := black (c + j - 1) (by omega) (by omega)
    simp only [isE, hb, Bool.not_false, Bool.true_and, Bool.or_eq_true, beq_iff_eq]
    by_cases hj : c + j = n
    · left; omega
    · right
      have := hl (by omega)
      rw [show c + j - 1 + 1 = c + j by omega]; exact this
  have e3 : cnt (isE X n) (c + j) = cnt (isE X n) (c + j - 1) + 1 := by
    have := cnt_succ (isE X n) (c + j - 1)
    rw [e2, show c + j - 1 + 1 = c + j by omega] at this
    simpa using this
  refine ⟨?_, ?_, ⟨by omega, ?_⟩, ?_, ?_⟩
  · have := nth (isS X) (p := c + i) (n := n) (by omega) s1
    unfold starts
    rw [List.getElem?_map, ht, ← s0, this]; rfl
  · have := nth (isE X n) (p := c + j - 1) (n := n) (by omega) e2
    unfold ends
    rw [List.getElem?_map, ht', ← e0, ← e1, this]
    simp only [Option.map_some]
    congr 1
    omega
  · by_cases hj : c + j = n
    · right; left; exact hj
    · right; right; exact hl (by omega)
  · rw [s2, cnt_succ, s1, s0, ← ht]; simp
  · rw [e3, e1, e0, ← ht']

end Go.Proofs.Qxb6600487a
