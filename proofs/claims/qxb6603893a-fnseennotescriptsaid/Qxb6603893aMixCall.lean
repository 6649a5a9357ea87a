/-
  Calls that only read, in a region that draws its order: the class of worlds is one world.
-/
import Derived.Test.Qxb6603893aMixed
namespace Go
section
variable {P : Program} {ops : Array Oper} {md : Region.Mode} {C : World → Prop} {n : Nat} {L : Array Bool → Act → World → Prop}

theorem YieldsIn.wpOpC {i : Nat} {o : Oper} {v : Value} {a : Act} {w : World} (hi : ops[i]? = some o) (hC : C w) (hsub : ∀ w w', C w → C w' → w' = w)
    (hy : YieldsIn P ops C o v a) {K : Act → World → Prop} (h : K (a.put o.dst v) w) : wpOp P ops NoExit i K a w := by
  unfold Go.wpOp
  simp only [hi]
  rcases hy with ⟨hw, hv⟩ | ⟨hw, rfl⟩
  · simp only [hw, if_true]
    refine .inl ?_
    have h3 := hv w hC
    unfold Oper.quietAt at h3
    unfold Oper.wp
    generalize hr : (execOp a.eval o).run P w = r at *
    cases r with
    | ok m w' =>
      cases m <;> simp only [Oper.quietUpon] at h3 <;> simp only [Oper.upon]
      case value u => obtain ⟨e1, e2⟩ := h3; rw [e1, e2]; exact h
      case skip => obtain ⟨e1, e2⟩ := h3; rw [e1, ← e2]; exact h
      case enter f args =>
        obtain ⟨e1, hc⟩ := h3
        rw [e1]
        exact hc.mono fun e w'' ⟨he, hw''⟩ => by subst he; rw [hsub _ _ hC hw'']; exact h
    | halt x w' => simp only [Oper.quietUpon] at h3
  · simp only [hw, Bool.false_eq_true, if_false]; exact h

theorem wpMix_firstC {i : Nat} {oi : Oper} {v : Value} (hi : ops[i]? = some oi) (hsel : ∀ (j : Nat) (o : Oper) cs b, ops[j]? = some o → o.op ≠ .select cs b)
    (hs : Region.sinkB md ops n = true) (hc : Region.chainB md ops n = true) (hn : n < ops.size) (hin : i < n) (hsub : ∀ w w', C w → C w' → w' = w)
    (hdone : ∀ listed a w, L listed a w → ∀ j ∈ Region.ready md ops listed, n ≤ j) :
    ∀ (f : Nat) (listed : Array Bool) (a : Act) (w : World), HeadInv md ops n listed →
      (∀ j oj, ops[j]? = some oj → j ≠ i → listed.getD j true = false → (∀ e ∈ oj.after, Region.binds md e = true → e.on ≠ i) → oi.apart ops oj = true) →
      i ∈ Region.ready md ops listed → YieldsIn P ops C oi v a →
      wpMix P md ops C n L f (listed.setIfInBounds i true) (a.put oi.dst v) w → wpMix P md ops C n L (f + 1) listed a w := by
  intro f
  induction f with
  | zero =>
    intro listed a w inv _ hr hy H
    have hun := (mem_ready.1 hr).1
    refine ⟨H.inClass, fun h => (by rw [h] at hr; cases hr), fun j hj => ?_⟩
    have hjn : j < n := by
      rcases Nat.lt_or_ge j n with h | h
      · exact h
      · exact absurd hj (tail_waits hs hc hn inv _ i rfl hin hun j h)
    refine ⟨hjn, ?_⟩
    by_cases hji : j = i
    · subst hji; exact hy.wpOpC hi H.inClass hsub H
    · have := hdone _ _ _ H.2 j (ready_mono hj hji)
      omega
  | succ f ih =>
    intro listed a w inv hfree hr hy H
    have hun := (mem_ready.1 hr).1
    refine ⟨H.inClass, fun h => (by rw [h] at hr; cases hr), fun j hj => ?_⟩
    have hjn : j < n := by
      rcases Nat.lt_or_ge j n with h | h
      · exact h
      · exact absurd hj (tail_waits hs hc hn inv _ i rfl hin hun j h)
    refine ⟨hjn, ?_⟩
    by_cases hji : j = i
    · subst hji; exact hy.wpOpC hi H.inClass hsub H
    · have h1 := (H.2.2 j (ready_mono hj hji)).2
      obtain ⟨hjun, oj, hoj, hall⟩ := mem_ready.1 hj
      have hnot : ∀ e ∈ oj.after, Region.binds md e = true → e.on ≠ i := fun e he hb heq => by
        have h1 := hall e he hb
        rw [heq, getD_both hun] at h1
        cases h1
      have h2 := wpOp_putH hoj (hfree j oj hoj hji hjun hnot) (fun cs b => hsel i oi cs b hi) (fun cs b => hsel j oj cs b hoj) hy h1
      have hfree' : ∀ k ok, ops[k]? = some ok → k ≠ i → (listed.setIfInBounds j true).getD k true = false →
          (∀ e ∈ ok.after, Region.binds md e = true → e.on ≠ i) → oi.apart ops ok = true := fun k ok hk hki hun hno => by
        refine hfree k ok hk hki ?_ hno
        by_cases hjk : j = k
        · subst hjk; exact hjun
        · rw [getD_set_ne true hjk] at hun; exact hun
      refine wpOp_mono (fun a' w' h3 => ih (listed.setIfInBounds j true) a' w' (inv.set hj hjn) hfree' (ready_mono hr (Ne.symm hji)) h3.1 ?_) h2
      rw [Array.setIfInBounds_comm _ _ hji]
      exact h3.2

def Region.takeC (md : Region.Mode) (ops : Array Oper) (n i : Nat) (listed : Array Bool) : Bool :=
  Region.headB md ops n listed && Region.free md ops listed i && (Region.ready md ops listed).contains i && decide (i < n)

theorem wpMix_takeC {i : Nat} {o : Oper} {f : Nat} {listed : Array Bool} {a : Act} {w : World} (hW : Region.wholeB md ops n = true)
    (hdone : ∀ listed a w, L listed a w → ∀ j ∈ Region.ready md ops listed, n ≤ j)
    (hi : ops[i]? = some o) (hsub : ∀ w w', C w → C w' → w' = w) (hB : Region.takeC md ops n i listed = true) (hw : Region.wanted o (yielded ops a.tmps) = true)
    (h : ∀ K : Act → Prop, (∀ a', wpMix P md ops C n L f (listed.setIfInBounds i true) a' w → K a') → o.quiet P a C K) : wpMix P md ops C n L (f + 1) listed a w := by
  simp only [Region.wholeB, Bool.and_eq_true, decide_eq_true_eq] at hW
  simp only [Region.takeC, Bool.and_eq_true, decide_eq_true_eq] at hB
  obtain ⟨⟨⟨h1, h2⟩, h3⟩, h4⟩ := hW
  obtain ⟨⟨⟨b1, b2⟩, b3⟩, b4⟩ := hB
  obtain ⟨v, hv, hk⟩ := h _ (fun _ h => h)
  exact wpMix_firstC hi (Region.noSelect_spec h1) h2 h3 h4 b4 hsub hdone f listed a w (Region.headB_spec b1) (Region.free_spec hi b2) (by simpa using b3) (.inl ⟨hw, hv⟩) hk

theorem wpMix_stepC {f : Nat} {Q : Exit → Act → World → Prop} {listed : Array Bool} {a : Act} {w : World} {l rest : List Oper} {oe o : Oper} (hR : mixB l n = true) (i : Nat)
    (hi : l.drop i = o :: rest) (hsub : ∀ w w', C w → C w' → w' = w) (hB : Region.takeC .any l.toArray n i listed = true) (hw : Region.wanted o (yielded l.toArray a.tmps) = true)
    (h : ∀ K : Act → Prop, (∀ a', wpMix P .any l.toArray C n (mixEnd P l n Q oe) f (listed.setIfInBounds i true) a' w → K a') → o.quiet P a C K) : wpMix P .any l.toArray C n (mixEnd P l n Q oe) (f + 1) listed a w := by
  simp only [mixB, Bool.and_eq_true, decide_eq_true_eq] at hR
  obtain ⟨⟨⟨h1, _⟩, r1⟩, _⟩ := hR
  refine wpMix_takeC h1 (fun listed a w hL j hj => ?_) (by have := congrArg (·[0]?) hi; simpa using this) hsub hB hw h
  obtain ⟨rfl, _⟩ := hL
  rw [r1] at hj
  obtain rfl : j = n := by simpa using hj
  exact Nat.le_refl _
end
end Go
