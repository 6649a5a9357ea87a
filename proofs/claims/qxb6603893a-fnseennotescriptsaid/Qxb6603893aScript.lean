/-
  The plain law of a script of notes: no Go in sight.
-/
import Derived.Test.Qxb6603893aNote2
namespace Go.Proofs.Qxb6603893a
set_option linter.unusedVariables false

namespace Script
/-- What a script is: its devices' keys, its marks, its changes as they would be noted. -/
structure Sc where
  key : Nat → Lit
  mark : Nat → Bool
  D : Nat → List Value
  wl : Nat → Int
  ct : Nat → Int
  hd : Nat → Bool

variable (s : Sc)
/-- The epoch behind j notes. -/
def ec : Nat → Nat
  | 0 => 0
  | j + 1 => ec j + (if j = 0 ∨ s.mark j = true then 1 else 0)
def ep (j : Nat) : Nat := ec s (j + 1)
def Again (j : Nat) : Prop := ∃ k, k < j ∧ ep s k = ep s j ∧ s.key k = s.key j
open Classical in
noncomputable def isFirst (j : Nat) : Bool := !decide (Again s j)
noncomputable def F : Nat → List Nat
  | 0 => []
  | j + 1 => F j ++ (if isFirst s j then [j] else [])
def entOf (j : Nat) : Ent := ⟨ep s j, s.D j, s.wl j, s.ct j, s.hd j⟩
def cn (lim : Nat) : Nat → Nat
  | 0 => 0
  | t + 1 => if lim < cn lim t + 1 then lim / 2 else cn lim t + 1
def dr (lim : Nat) : Nat → Bool
  | 0 => false
  | t + 1 => dr lim t || decide (lim < cn lim t + 1)
noncomputable def kept (lim j : Nat) : List Ent := ((F s j).drop ((F s j).length - cn lim (F s j).length)).map (entOf s)
noncomputable def oldest (lim j : Nat) : Int :=
  if dr lim (F s j).length then (ep s ((F s j).getD ((F s j).length - cn lim (F s j).length - 1) 0) : Nat) else 0

theorem cn_le (lim : Nat) : ∀ t, cn lim t ≤ t
  | 0 => Nat.le_refl _
  | t + 1 => by
    have := cn_le lim t
    unfold cn
    split <;> omega
theorem cn_lim (lim : Nat) : ∀ t, cn lim t ≤ lim
  | 0 => Nat.zero_le _
  | t + 1 => by
    have := cn_lim lim t
    unfold cn
    split <;> omega
theorem dr_lt (lim : Nat) : ∀ t, dr lim t = true → cn lim t < t
  | 0, h => by simp [dr] at h
  | t + 1, h => by
    have h1 := cn_le lim t
    unfold dr at h
    unfold cn
    simp only [Bool.or_eq_true, decide_eq_true_eq] at h
    split
    · omega
    · rcases h with h | h
      · have := dr_lt lim t h
        omega
      · omega
theorem dr_not (lim : Nat) : ∀ t, dr lim t = false → cn lim t = t
  | 0, _ => rfl
  | t + 1, h => by
    unfold dr at h
    simp only [Bool.or_eq_false_iff, decide_eq_false_iff_not] at h
    have := dr_not lim t h.1
    unfold cn
    rw [if_neg h.2, this]
theorem kept_length (lim j : Nat) : (kept s lim j).length = cn lim (F s j).length := by
  have := cn_le lim (F s j).length
  simp [kept]
  omega

/-- A note that is no first leaves what is kept. -/
theorem kept_again {lim j : Nat} (h : isFirst s j = false) : kept s lim (j + 1) = kept s lim j ∧ oldest s lim (j + 1) = oldest s lim j := by
  have : F s (j + 1) = F s j := by simp [F, h]
  simp [kept, oldest, this]
/-- A first: it is appended, and the row is cut. -/
theorem kept_first {lim j : Nat} {l : Int} (hl : l = (lim : Int)) (h : isFirst s j = true) :
    kept s lim (j + 1) = cutEnts l (kept s lim j ++ [entOf s j]) ∧ oldest s lim (j + 1) = cutOld l (oldest s lim j) (kept s lim j ++ [entOf s j]) := by
  subst hl
  have hF : F s (j + 1) = F s j ++ [j] := by simp [F, h]
  have hk := kept_length s lim j
  have hc := cn_le lim (F s j).length
  generalize hL : (F s j).length = L at *
  have hL1 : (F s (j + 1)).length = L + 1 := by rw [hF]; simp [hL]
  have hes : (kept s lim j ++ [entOf s j]) = ((F s (j + 1)).drop (L - cn lim L)).map (entOf s) := by
    rw [hF, List.drop_append_of_le_length (by omega)]
    simp [kept, hL]
  have hlen : (kept s lim j ++ [entOf s j]).length = cn lim L + 1 := by simp [hk]
  by_cases hcut : lim < cn lim L + 1
  · have hc1 : cn lim (L + 1) = lim / 2 := by simp [cn, hcut]
    have hd1 : dr lim (L + 1) = true := by simp [dr, hcut]
    have hcl := cn_lim lim L
    have hgt : ((lim : Nat) : Int) < ((kept s lim j ++ [entOf s j]).length : Int) := by rw [hlen]; omega
    have hgone : gone (lim : Int) (kept s lim j ++ [entOf s j]) = cn lim L + 1 - lim / 2 := by
      unfold gone
      rw [hlen]
      omega
    constructor
    · rw [cutEnts, if_pos hgt, hgone, hes]
      unfold kept
      rw [hL1, hc1, ← List.map_drop, List.drop_drop]
      congr 2
      omega
    · rw [cutOld, if_pos hgt, hgone, hes]
      unfold oldest
      rw [hL1, hc1, hd1, if_pos rfl]
      simp only [List.getD_eq_getElem?_getD, List.getElem?_map, List.getElem?_drop]
      rw [show L - cn lim L + (cn lim L + 1 - lim / 2 - 1) = L + 1 - lim / 2 - 1 by omega, List.getElem?_eq_getElem (by omega)]
      rfl
  · have hc1 : cn lim (L + 1) = cn lim L + 1 := by simp [cn, hcut]
    have hd1 : dr lim (L + 1) = dr lim L := by simp [dr, hcut]
    have hgt : ¬ ((lim : Nat) : Int) < ((kept s lim j ++ [entOf s j]).length : Int) := by rw [hlen]; omega
    constructor
    · rw [cutEnts, if_neg hgt, hes]
      unfold kept
      rw [hL1, hc1, show L + 1 - (cn lim L + 1) = L - cn lim L by omega]
    · rw [cutOld, if_neg hgt]
      unfold oldest
      rw [hL1, hc1, hd1, hL]
      split
      · rename_i hd
        have hlt := dr_lt lim L hd
        rw [show L + 1 - (cn lim L + 1) - 1 = L - cn lim L - 1 by omega, hF, List.getD_eq_getElem?_getD, List.getD_eq_getElem?_getD, List.getElem?_append_left (by omega)]
      · rfl

theorem ec_mono : ∀ {i j : Nat}, i ≤ j → ec s i ≤ ec s j
  | i, j, h => by
    induction h with
    | refl => exact Nat.le_refl _
    | step h ih => exact Nat.le_trans ih (Nat.le_add_right _ _)
theorem ep_mono {i j : Nat} (h : i ≤ j) : ep s i ≤ ep s j := ec_mono s (by omega)
theorem ec_le : ∀ j, ec s j ≤ j
  | 0 => Nat.le_refl _
  | j + 1 => by
    have := ec_le j
    unfold ec
    split <;> omega

open Classical in
noncomputable def ind (n j : Nat) : Bool := decide (¬ ∃ k, j < k ∧ k < n ∧ s.key k = s.key j)
/-- Last occurrences among the first n, up to j. -/
noncomputable def lasts (n : Nat) : Nat → Nat
  | 0 => 0
  | j + 1 => lasts n j + (ind s n j).toNat

theorem last_ex {p : Nat → Prop} : ∀ {n : Nat}, (∃ k, k < n ∧ p k) → ∃ k, k < n ∧ p k ∧ ∀ k', k < k' → k' < n → ¬ p k'
  | 0, ⟨k, h, _⟩ => by omega
  | n + 1, ⟨k, h, hp⟩ => by
    by_cases hn : p n
    · exact ⟨n, by omega, hn, fun k' h1 h2 => by omega⟩
    · have hk : k ≠ n := fun e => hn (e ▸ hp)
      obtain ⟨q, q1, q2, q3⟩ := last_ex (n := n) ⟨k, by omega, hp⟩
      refine ⟨q, by omega, q2, fun k' h1 h2 => ?_⟩
      by_cases e : k' = n
      · exact e ▸ hn
      · exact q3 k' h1 (by omega)

theorem ind_succ {n j : Nat} (hj : j < n) : ind s (n + 1) j = true ↔ ind s n j = true ∧ s.key n ≠ s.key j := by
  simp only [ind, decide_eq_true_eq]
  constructor
  · intro h
    exact ⟨fun ⟨k, h1, h2, h3⟩ => h ⟨k, h1, by omega, h3⟩, fun e => h ⟨n, hj, by omega, e⟩⟩
  · rintro ⟨h1, h2⟩ ⟨k, q1, q2, q3⟩
    by_cases e : k = n
    · exact h2 (e ▸ q3)
    · exact h1 ⟨k, q1, by omega, q3⟩

open Classical in
theorem lasts_part (n : Nat) : ∀ j, j ≤ n → lasts s (n + 1) j + (if ∃ k, k < j ∧ s.key k = s.key n ∧ ind s n k = true then 1 else 0) = lasts s n j
  | 0, _ => by simp [lasts]
  | j + 1, hj => by
    have ih := lasts_part n j (by omega)
    have hi := ind_succ s (n := n) (j := j) (by omega)
    simp only [lasts]
    by_cases h1 : ind s n j = true
    · by_cases h2 : s.key n = s.key j
      · have h3 : ind s (n + 1) j = false := by
          cases hq : ind s (n + 1) j
          · rfl
          · exact absurd h2 (hi.1 hq).2
        have hno : ¬ ∃ k, k < j ∧ s.key k = s.key n ∧ ind s n k = true := by
          rintro ⟨k, q1, q2, q3⟩
          simp only [ind, decide_eq_true_eq] at q3
          exact q3 ⟨j, q1, by omega, by rw [q2, h2]⟩
        have hyes : ∃ k, k < j + 1 ∧ s.key k = s.key n ∧ ind s n k = true := ⟨j, by omega, h2.symm, h1⟩
        rw [if_neg hno] at ih
        rw [if_pos hyes, h3, h1, ← ih]
        rfl
      · have h3 : ind s (n + 1) j = true := hi.2 ⟨h1, h2⟩
        have hiff : (∃ k, k < j + 1 ∧ s.key k = s.key n ∧ ind s n k = true) ↔ ∃ k, k < j ∧ s.key k = s.key n ∧ ind s n k = true := by
          constructor
          · rintro ⟨k, q1, q2, q3⟩
            refine ⟨k, ?_, q2, q3⟩
            have : k ≠ j := fun e => h2 (by rw [← e, q2])
            omega
          · rintro ⟨k, q1, q2, q3⟩
            exact ⟨k, by omega, q2, q3⟩
        simp only [hiff]
        rw [h3, h1, ← ih]
        omega
    · have h1' : ind s n j = false := by simpa using h1
      have h3 : ind s (n + 1) j = false := by
        cases hq : ind s (n + 1) j
        · rfl
        · exact absurd (hi.1 hq).1 h1
      have hiff : (∃ k, k < j + 1 ∧ s.key k = s.key n ∧ ind s n k = true) ↔ ∃ k, k < j ∧ s.key k = s.key n ∧ ind s n k = true := by
        constructor
        · rintro ⟨k, q1, q2, q3⟩
          refine ⟨k, ?_, q2, q3⟩
          have : k ≠ j := fun e => h1 (by rw [← e]; exact q3)
          omega
        · rintro ⟨k, q1, q2, q3⟩
          exact ⟨k, by omega, q2, q3⟩
      simp only [hiff]
      rw [h3, h1', ← ih]
      rfl

open Classical in
/-- One device more. -/
theorem lasts_succ (n : Nat) : lasts s (n + 1) (n + 1) = lasts s n n + (if ∃ k, k < n ∧ s.key k = s.key n then 0 else 1) := by
  have h := lasts_part s n n (Nat.le_refl _)
  have h1 : ind s (n + 1) n = true := by
    simp only [ind, decide_eq_true_eq]
    rintro ⟨k, q1, q2, _⟩
    omega
  simp only [lasts, h1, Bool.toNat_true]
  by_cases he : ∃ k, k < n ∧ s.key k = s.key n
  · have he2 : ∃ k, k < n ∧ s.key k = s.key n ∧ ind s n k = true := by
      obtain ⟨k, q1, q2, q3⟩ := last_ex (p := fun k => s.key k = s.key n) he
      refine ⟨k, q1, q2, ?_⟩
      simp only [ind, decide_eq_true_eq]
      rintro ⟨k', r1, r2, r3⟩
      exact q3 k' r1 r2 (r3.trans q2)
    rw [if_pos he2] at h
    rw [if_pos he]
    omega
  · have he2 : ¬ ∃ k, k < n ∧ s.key k = s.key n ∧ ind s n k = true := fun ⟨k, q1, q2, _⟩ => he ⟨k, q1, q2⟩
    rw [if_neg he2] at h
    rw [if_neg he]
    omega

/-- A device noted before in the same epoch: its latest note bears the epoch. -/
theorem again_iff (j k : Nat) (hk : k < j) (hkey : s.key k = s.key j) (hlast : ∀ k', k < k' → k' < j → s.key k' ≠ s.key j) : ep s k = ep s j ↔ Again s j := by
  constructor
  · intro h
    exact ⟨k, hk, h, hkey⟩
  · rintro ⟨q, q1, q2, q3⟩
    have hq : q ≤ k := by
      rcases Nat.lt_or_ge k q with h | h
      · exact absurd q3 (hlast q h q1)
      · exact h
    have h1 := ep_mono s hq
    have h2 := ep_mono s (Nat.le_of_lt hk)
    omega
end Script
end Go.Proofs.Qxb6603893a
