/-
  Small facts for the loops of the script's law behind its first.
-/
import Derived.Test.Qxb6603893aScriptNote
import Derived.Test.Qxb6603893aSame
namespace Go.Proofs.Qxb6603893a
open Go.RowKit Go.Maps Script
set_option linter.unusedVariables false

/-! ### Two devices held against each other -/
open Classical in
noncomputable def sameDev (D E : List Value) : Bool := decide (kl D = kl E)
theorem equal34 (w : World) {D E : List Value} (h : Dev D) (h' : Dev E) : (Op.equal 34 (.agg D.toArray) (.agg E.toArray)).run Try.prog w = .ok (sameDev D E) w := by
  obtain ⟨r, h1, h2⟩ := run_equal_deep (P := Try.prog) w (m := 3) (by omega) (k := 34) (by kernel_rfl) (by kernel_rfl) ((key34 h).trans h.hkey) ((key34 h').trans h'.hkey)
  rw [h1]
  have : r = sameDev D E := by
    unfold sameDev
    by_cases e : kl D = kl E
    · rw [h2.2 e]
      simp [e]
    · have hr : r = false := by
        cases hq : r
        · rfl
        · exact absurd (h2.1 hq) e
      rw [hr]
      simp [e]
  rw [this]
theorem eql34' (w : World) {D E : List Value} (h : Dev D) (h' : Dev E) (x y : Operand) : ((do eqGuard .eql 34 x y (.agg D.toArray) (.agg E.toArray); binOp .eql 34 (.agg D.toArray) (.agg E.toArray)) : Sem Value).run Try.prog w = .ok (.bool (sameDev D E)) w := by
  have hg : Try.prog.eqGuardType Try.prog.depth 34 = false := by kernel_rfl
  have he := equal34 w h h'
  simp [eqGuard, binOp, hg, he, go_sem]
theorem neq34' (w : World) {D E : List Value} (h : Dev D) (h' : Dev E) (x y : Operand) : ((do eqGuard .neq 34 x y (.agg D.toArray) (.agg E.toArray); binOp .neq 34 (.agg D.toArray) (.agg E.toArray)) : Sem Value).run Try.prog w = .ok (.bool (!sameDev D E)) w := by
  have hg : Try.prog.eqGuardType Try.prog.depth 34 = false := by kernel_rfl
  have he := equal34 w h h'
  simp [eqGuard, binOp, hg, he, go_sem]

/-! ### The scan downwards for an earlier note of the same device in the same epoch -/
/-- Behind the scan of (t, j): no note of j's device there. -/
def Clear (s : Sc) (j t : Nat) : Prop := ∀ k, t ≤ k → k < j → s.key k ≠ s.key j
/-- All of [t, j) lies in j's epoch. -/
def SameEp (s : Sc) (j t : Nat) : Prop := ∀ k, t ≤ k → k < j → ep s k = ep s j
theorem scan_end {s : Sc} {j t : Nat} {b : Bool} (ht : t ≤ j) (hs : SameEp s j t) (hb : b = true ↔ Clear s j t) (hend : t = 0 ∨ ep s (t - 1) ≠ ep s j) : b = isFirst s j := by
  have key : Clear s j t ↔ ¬ Again s j := by
    constructor
    · rintro hc ⟨k, k1, k2, k3⟩
      by_cases hk : t ≤ k
      · exact hc k hk k1 k3
      · rcases hend with h0 | h0
        · omega
        · have h1 := ep_mono s (show k ≤ t - 1 by omega)
          have h2 := ep_mono s (show t - 1 ≤ j by omega)
          omega
    · intro hn k k1 k2 k3
      exact hn ⟨k, k2, hs k k1 k2, k3⟩
  unfold isFirst
  by_cases hA : Again s j
  · have : b = false := by
      cases hq : b
      · rfl
      · exact absurd hA (key.1 (hb.1 hq))
    simp [this, hA]
  · have : b = true := hb.2 (key.2 hA)
    simp [this, hA]
theorem scan_step {s : Sc} {j t : Nat} {b : Bool} (ht : 0 < t) (htj : t ≤ j) (hs : SameEp s j t) (hb : b = true ↔ Clear s j t) (he : ep s (t - 1) = ep s j) :
    SameEp s j (t - 1) ∧ (∀ c : Bool, (c = true ↔ s.key (t - 1) = s.key j) → ((if c then false else b) = true ↔ Clear s j (t - 1))) := by
  refine ⟨fun k k1 k2 => ?_, fun c hc => ?_⟩
  · by_cases e : k = t - 1
    · rw [e]; exact he
    · exact hs k (by omega) k2
  · cases c with
    | true =>
      have h1 := hc.1 rfl
      simp only [if_true, Bool.false_eq_true, false_iff]
      exact fun h => h (t - 1) (Nat.le_refl _) (by omega) h1
    | false =>
      have h1 : s.key (t - 1) ≠ s.key j := fun e => by have := hc.2 e; cases this
      simp only [Bool.false_eq_true, if_false]
      rw [hb]
      constructor
      · intro h k k1 k2
        by_cases e : k = t - 1
        · rw [e]; exact h1
        · exact h k (by omega) k2
      · exact fun h k k1 k2 => h k (by omega) k2

/-! ### The count -/
theorem cn_step_int (l t : Nat) : (if (l : Int) < (cn l t : Int) + 1 then (l : Int) / 2 else (cn l t : Int) + 1) = ((cn l (t + 1) : Nat) : Int) := by
  have hc : cn l (t + 1) = if l < cn l t + 1 then l / 2 else cn l t + 1 := rfl
  rw [hc]
  by_cases h : l < cn l t + 1
  · rw [if_pos (by omega), if_pos h]
    omega
  · rw [if_neg (by omega), if_neg h]
    omega

/-! ### What is kept, read off the row of firsts -/
theorem kept_get {s : Sc} {l j t : Nat} (h : t < cn l (F s j).length) : (kept s l j)[t]? = some (entOf s ((F s j).getD ((F s j).length - cn l (F s j).length + t) 0)) := by
  have h1 := cn_le l (F s j).length
  unfold kept
  rw [List.getElem?_map, List.getElem?_drop, List.getElem?_eq_getElem (by omega), List.getD_eq_getElem?_getD, List.getElem?_eq_getElem (by omega)]
  rfl
theorem F_get_lt {s : Sc} {j t : Nat} (h : t < (F s j).length) : (F s j).getD t 0 < j := by
  rw [List.getD_eq_getElem?_getD, List.getElem?_eq_getElem h]
  exact F_mem s (List.getElem_mem h)

/-! ### Last occurrences -/
/-- Behind the scan of (j, t): no later note of j's device there. -/
def ClearUp (s : Sc) (j t : Nat) : Prop := ∀ k, j < k → k < t → s.key k ≠ s.key j
theorem ind_of_clear {s : Sc} {n j : Nat} (h : ClearUp s j n) : ind s n j = true := by
  simp only [ind, decide_eq_true_eq]
  rintro ⟨k, k1, k2, k3⟩
  exact h k k1 k2 k3
theorem ind_of_hit {s : Sc} {n j k : Nat} (h1 : j < k) (h2 : k < n) (h3 : s.key k = s.key j) : ind s n j = false := by
  cases hq : ind s n j
  · rfl
  · simp only [ind, decide_eq_true_eq] at hq
    exact absurd ⟨k, h1, h2, h3⟩ hq
theorem MapIs.last {s : Sc} {n j : Nat} {M : DataW Unit} (H : MapIs s n M) (hj : j < n) (h : ClearUp s j n) : Maps.has M (s.key j) = true ∧ M.atKey (s.key j) (.lit (.int .u64 0)) = .lit (.int .u64 (ep s j : Nat)) :=
  ⟨(H.has _).2 ⟨j, hj, rfl⟩, H.at_ j hj fun k k1 k2 => h k k1 k2⟩
end Go.Proofs.Qxb6603893a
