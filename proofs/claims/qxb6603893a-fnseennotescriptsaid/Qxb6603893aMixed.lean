/-
  REGIONS THAT DRAW THEIR ORDER AND WRITE: a walk of our own over 'wpAny' (Derived/Orders.lean). The region's last operation waits for all others; the others are taken one by one: a quiet one (one value in every world of a class C) may be taken first; a loud one keeps the class.
-/
import Derived.Test.Qxb6603893aHex
import Derived.StillTail
import Derived.BigQuiet
import Derived.Laws.Tables
import Derived.Great.BuildSlice
namespace Go

theorem vne {P : Program} {w w' : World} {f : FuncId} {args : Array Value} (s : Sem Value) : ((do pure (Next.value (← s))) : Sem Next).run P w ≠ .ok (.enter f args) w' := by
  intro h
  rw [Sem.run_bind] at h
  cases hs : s.run P w <;> simp [hs, Result.andThen] at h

def Op.calm : Op → Bool
  | .move _ | .assign _ | .nilCheck _ | .build .. | .load .. | .fieldAddr .. | .indexAddr .. | .binOp .. | .lookup .. | .extract .. => true
  | .call c => match c.callee with | .builtin .len => true | _ => false
  | _ => false

theorem calm_no_enter {P : Program} {w w' : World} {f : FuncId} {args : Array Value} {ρ : Operand → Value} {o : Oper} (h : o.op.calm = true) : (execOp ρ o).run P w ≠ .ok (.enter f args) w' := by
  unfold execOp
  cases ho : o.op <;> rw [ho] at h <;> simp only [Op.calm, Bool.false_eq_true] at h
  all_goals try exact vne _
  all_goals try (intro hr; cases hr; done)
  · simp only []
    split
    all_goals try (intro hr; cases hr; done)
    split
    all_goals try (intro hr; cases hr; done)
    intro hr
    rw [Sem.run_bind] at hr
    generalize Sem.run P program w = r at hr
    cases r with
    | halt x w1 => simp [Result.andThen] at hr
    | ok p w1 =>
      simp only [Result.andThen] at hr
      rw [Sem.run_bind] at hr
      generalize Sem.run P (nilAhead _ _ _ _) w1 = r at hr
      cases r with
      | halt x w1 => simp [Result.andThen] at hr
      | ok p w1 =>
        simp only [Result.andThen] at hr
        split at hr
        · rw [Sem.run_bind] at hr
          generalize Sem.run P _ w1 = r at hr
          cases r with
          | halt x w1 => simp [Result.andThen] at hr
          | ok p w1 => simp [Result.andThen] at hr
        · simp at hr
  · split at h
    · rename_i hc
      simp only [resolve, hc]
      exact vne _
    · cases h

section
variable {P : Program} {ops : Array Oper} {md : Region.Mode} {C : World → Prop} {n : Nat}

theorem Oper.wp_mono2 {o : Oper} {a : Act} {w : World} {K K' : Act → World → Prop} {Q Q' : Exit → Act → World → Prop} (h : ∀ a w, K a w → K' a w) (hq : ∀ e a w, e ≠ .normal → Q e a w → Q' e a w)
    (hh : o.wp P a w K Q) : o.wp P a w K' Q' := by
  unfold Oper.wp at *
  generalize (execOp a.eval o).run P w = r at *
  cases r with
  | ok m w' =>
    cases m <;> simp only [Oper.upon] at hh ⊢ <;>
      first
        | exact h _ _ hh
        | exact Calls.mono hh (fun e w'' he => by cases e <;> first | exact h _ _ he | exact hq _ _ _ (by simp) he | exact (let ⟨a', w', h'⟩ := he; ⟨a', w', hq _ _ _ (by simp) h'⟩))
        | exact Rows.mono hh (fun _ _ he => h _ _ he)
  | halt x w' => cases x <;> simp only [Oper.upon] at hh ⊢ <;> first | exact hh | exact hq _ _ _ (by simp) hh

/-- No exit but the normal one. -/
def NoExit : Exit → Act → World → Prop := fun _ _ _ => False

theorem wpOp_of_noExit {Q : Exit → Act → World → Prop} {i : Nat} {a : Act} {w : World} {K K' : Act → World → Prop} (h : ∀ a w, K a w → K' a w) (hh : wpOp P ops NoExit i K a w) : wpOp P ops Q i K' a w := by
  unfold wpOp at *
  split
  · exact h _ _ (by simpa [*] using hh)
  · rename_i o ho
    simp only [ho] at hh
    split
    · rename_i hw
      simp only [hw, if_true] at hh
      rcases hh with hh | ⟨_, _, _, hf⟩
      · exact .inl (Oper.wp_mono2 h (fun _ _ _ _ hf => hf.elim) hh)
      · exact hf.elim
    · rename_i hw; simp only [hw] at hh; exact h _ _ hh

/-- Whatever order is picked among the first n operations: each leaves a world of the class; behind them 'L'. -/
def wpMix (P : Program) (md : Region.Mode) (ops : Array Oper) (C : World → Prop) (n : Nat) (L : Array Bool → Act → World → Prop) : Nat → Array Bool → Act → World → Prop
  | 0, listed, a, w => C w ∧ L listed a w
  | f + 1, listed, a, w => C w ∧ Region.ready md ops listed ≠ [] ∧ ∀ i ∈ Region.ready md ops listed, i < n ∧ wpOp P ops NoExit i (wpMix P md ops C n L f (listed.setIfInBounds i true)) a w

variable {L : Array Bool → Act → World → Prop}

theorem wpMix.inClass : ∀ {f : Nat} {listed : Array Bool} {a : Act} {w : World}, wpMix P md ops C n L f listed a w → C w
  | 0, _, _, _, h => h.1
  | _ + 1, _, _, _, h => h.1

theorem wpAny_of_mix {g : Nat} {Q : Exit → Act → World → Prop} (hL : ∀ listed a w, L listed a w → wpAny P md ops Q g listed a w) :
    ∀ (f : Nat) (listed : Array Bool) (a : Act) (w : World), wpMix P md ops C n L f listed a w → wpAny P md ops Q (f + g) listed a w
  | 0, listed, a, w, h => by rw [Nat.zero_add]; exact hL _ _ _ h.2
  | f + 1, listed, a, w, h => by
    rw [show f + 1 + g = (f + g) + 1 by omega]
    exact ⟨fun h0 => absurd h0 h.2.1, fun i hi => wpOp_of_noExit (fun a' w' h' => wpAny_of_mix hL f _ a' w' h') (h.2.2 i hi).2⟩

theorem YieldsIn.wpOpH {i : Nat} {o : Oper} {v : Value} {a : Act} {w : World} (hi : ops[i]? = some o) (hC : C w) (hs : o.op.calm = true)
    (hy : YieldsIn P ops C o v a) {K : Act → World → Prop} (h : K (a.put o.dst v) w) : wpOp P ops NoExit i K a w := by
  unfold Go.wpOp
  simp only [hi]
  rcases hy with ⟨hw, hv⟩ | ⟨hw, rfl⟩
  · simp only [hw, if_true]
    refine .inl ?_
    have h3 := hv w hC
    unfold Oper.quietAt at h3
    unfold Oper.wp
    generalize hr : (execOp a.eval o).run P w = r at *
    cases r with
    | ok m w' =>
      cases m <;> simp only [Oper.quietUpon] at h3 <;> simp only [Oper.upon]
      case value u => obtain ⟨e1, e2⟩ := h3; rw [e1, e2]; exact h
      case skip => obtain ⟨e1, e2⟩ := h3; rw [e1, ← e2]; exact h
      case enter f args => exact absurd hr (calm_no_enter hs)
    | halt x w' => simp only [Oper.quietUpon] at h3
  · simp only [hw, Bool.false_eq_true, if_false]; exact h

/-- One operation 'oj', apart from the quiet 'oi'. -/
theorem wpOp_putH {j : Nat} {oi oj : Oper} {v : Value} (hj : ops[j]? = some oj) (hap : oi.apart ops oj = true)
    (hsi : ∀ cs b, oi.op ≠ .select cs b) (hsj : ∀ cs b, oj.op ≠ .select cs b)
    {K : Act → World → Prop} {a : Act} {w : World}
    (hy : YieldsIn P ops C oi v a) (h : wpOp P ops NoExit j K (a.put oi.dst v) w) :
    wpOp P ops NoExit j (fun a' w' => YieldsIn P ops C oi v a' ∧ K (a'.put oi.dst v) w') a w := by
  obtain ⟨h1, h2, h3⟩ := Oper.apart_spec hap
  have keep : ∀ (a : Act), YieldsIn P ops C oi v a → ∀ u, YieldsIn P ops C oi v (a.put oj.dst u) := fun a hy u =>
    hy.of_same (execOp_put oi hsi a oj.dst u h3) (wanted_put oi a oj.dst u h3)
  have keepD : ∀ d, YieldsIn P ops C oi v { a with defers := d :: a.defers } := fun d => hy.of_same rfl rfl
  unfold wpOp at *
  simp only [hj] at *
  rw [wanted_put oj a oi.dst v h1] at h
  split
  · rename_i hw
    simp only [hw, if_true] at h
    rcases h with h | ⟨_, _, _, hf⟩
    case inr => exact hf.elim
    refine .inl ?_
    unfold Oper.wp at *
    rw [execOp_put oj hsj a oi.dst v h1] at h
    generalize (execOp a.eval oj).run P w = r at *
    cases r with
    | ok n w' =>
      cases n <;> simp only [Oper.upon] at h ⊢
      case value u => exact ⟨keep a hy u, by rw [← Act.put_comm a v u h2]; exact h⟩
      case skip => exact ⟨keep a hy _, by rw [← Act.put_comm a v undef h2]; exact h⟩
      case defer d =>
        refine ⟨keep _ (keepD d) _, ?_⟩
        rw [← Act.put_comm _ v undef h2, ← Act.put_defers]
        exact h
      case enter f args =>
        refine Calls.mono h fun e w'' he => ?_
        cases e with
        | returned u => exact ⟨keep a hy u, by rw [← Act.put_comm a v u h2]; exact he⟩
        | panicked c => exact he
        | outgrown => exact he
      case row row args => exact Rows.mono h fun u w'' he => ⟨keep a hy u, by rw [← Act.put_comm a v u h2]; exact he⟩
    | halt x w' =>
      cases x <;> simp only [Oper.upon] at h ⊢
      all_goals exact h
  · rename_i hw
    simp only [hw] at h
    exact ⟨keep a hy _, by rw [← Act.put_comm a v undef h2]; exact h⟩

theorem wpMix_first {i : Nat} {oi : Oper} {v : Value} (hi : ops[i]? = some oi) (hsel : ∀ (j : Nat) (o : Oper) cs b, ops[j]? = some o → o.op ≠ .select cs b)
    (hs : Region.sinkB md ops n = true) (hc : Region.chainB md ops n = true) (hn : n < ops.size) (hin : i < n) (hcalm : oi.op.calm = true)
    (hdone : ∀ listed a w, L listed a w → ∀ j ∈ Region.ready md ops listed, n ≤ j) :
    ∀ (f : Nat) (listed : Array Bool) (a : Act) (w : World), HeadInv md ops n listed →
      (∀ j oj, ops[j]? = some oj → j ≠ i → listed.getD j true = false → (∀ e ∈ oj.after, Region.binds md e = true → e.on ≠ i) → oi.apart ops oj = true) →
      i ∈ Region.ready md ops listed → YieldsIn P ops C oi v a →
      wpMix P md ops C n L f (listed.setIfInBounds i true) (a.put oi.dst v) w → wpMix P md ops C n L (f + 1) listed a w := by
  intro f
  induction f with
  | zero =>
    intro listed a w inv _ hr hy H
    have hun := (mem_ready.1 hr).1
    refine ⟨H.inClass, fun h => (by rw [h] at hr; cases hr), fun j hj => ?_⟩
    have hjn : j < n := by
      rcases Nat.lt_or_ge j n with h | h
      · exact h
      · exact absurd hj (tail_waits hs hc hn inv _ i rfl hin hun j h)
    refine ⟨hjn, ?_⟩
    by_cases hji : j = i
    · subst hji; exact hy.wpOpH hi H.inClass hcalm H
    · have := hdone _ _ _ H.2 j (ready_mono hj hji)
      omega
  | succ f ih =>
    intro listed a w inv hfree hr hy H
    have hun := (mem_ready.1 hr).1
    refine ⟨H.inClass, fun h => (by rw [h] at hr; cases hr), fun j hj => ?_⟩
    have hjn : j < n := by
      rcases Nat.lt_or_ge j n with h | h
      · exact h
      · exact absurd hj (tail_waits hs hc hn inv _ i rfl hin hun j h)
    refine ⟨hjn, ?_⟩
    by_cases hji : j = i
    · subst hji; exact hy.wpOpH hi H.inClass hcalm H
    · have h1 := (H.2.2 j (ready_mono hj hji)).2
      obtain ⟨hjun, oj, hoj, hall⟩ := mem_ready.1 hj
      have hnot : ∀ e ∈ oj.after, Region.binds md e = true → e.on ≠ i := fun e he hb heq => by
        have h1 := hall e he hb
        rw [heq, getD_both hun] at h1
        cases h1
      have h2 := wpOp_putH hoj (hfree j oj hoj hji hjun hnot) (fun cs b => hsel i oi cs b hi) (fun cs b => hsel j oj cs b hoj) hy h1
      have hfree' : ∀ k ok, ops[k]? = some ok → k ≠ i → (listed.setIfInBounds j true).getD k true = false →
          (∀ e ∈ ok.after, Region.binds md e = true → e.on ≠ i) → oi.apart ops ok = true := fun k ok hk hki hun hno => by
        refine hfree k ok hk hki ?_ hno
        by_cases hjk : j = k
        · subst hjk; exact hjun
        · rw [getD_set_ne true hjk] at hun; exact hun
      refine wpOp_mono (fun a' w' h3 => ih (listed.setIfInBounds j true) a' w' (inv.set hj hjn) hfree' (ready_mono hr (Ne.symm hji)) h3.1 ?_) h2
      rw [Array.setIfInBounds_comm _ _ hji]
      exact h3.2

/-- The checks at one quiet operation, as one Bool. -/
def Region.headB (md : Region.Mode) (ops : Array Oper) (n : Nat) (listed : Array Bool) : Bool :=
  (listed.size == ops.size) &&
  ((List.range ops.size).all fun j => !(listed.getD j false) || ((ops[j]?).map (·.after.all fun e => !Region.binds md e || listed.getD e.on false)).getD true) &&
  ((List.range ops.size).all fun t => decide (t < n) || !(listed.getD t true))

theorem Region.headB_spec {listed : Array Bool} (h : Region.headB md ops n listed = true) : HeadInv md ops n listed := by
  simp only [Region.headB, Bool.and_eq_true, beq_iff_eq, List.all_eq_true, List.mem_range, Bool.or_eq_true, Bool.not_eq_true', decide_eq_true_eq] at h
  obtain ⟨⟨h1, h2⟩, h3⟩ := h
  refine ⟨h1, fun j oj hj hl e he hb => ?_, fun t ht hts => ?_⟩
  · have := h2 j (Array.getElem?_eq_some_iff.1 hj).1
    rw [hl] at this
    simp only [hj, Option.map_some, Option.getD_some, Bool.true_eq_false, false_or, Array.all_eq_true_iff_forall_mem, Bool.or_eq_true, Bool.not_eq_true'] at this
    exact (this e he).resolve_left (by simp [hb])
  · rcases h3 t hts with h | h
    · omega
    · exact h

def Region.takeB (md : Region.Mode) (ops : Array Oper) (n i : Nat) (listed : Array Bool) : Bool :=
  Region.headB md ops n listed && Region.free md ops listed i && (Region.ready md ops listed).contains i && decide (i < n) && ((ops[i]?).map (·.op.calm)).getD false

/-- The checks on the whole region. -/
def Region.wholeB (md : Region.Mode) (ops : Array Oper) (n : Nat) : Bool :=
  Region.noSelect ops && Region.sinkB md ops n && Region.chainB md ops n && decide (n < ops.size)

theorem wpMix_take {i : Nat} {o : Oper} {f : Nat} {listed : Array Bool} {a : Act} {w : World} (hW : Region.wholeB md ops n = true)
    (hdone : ∀ listed a w, L listed a w → ∀ j ∈ Region.ready md ops listed, n ≤ j)
    (hi : ops[i]? = some o) (hB : Region.takeB md ops n i listed = true) (hw : Region.wanted o (yielded ops a.tmps) = true)
    (h : ∀ K : Act → Prop, (∀ a', wpMix P md ops C n L f (listed.setIfInBounds i true) a' w → K a') → o.quiet P a C K) : wpMix P md ops C n L (f + 1) listed a w := by
  simp only [Region.wholeB, Bool.and_eq_true, decide_eq_true_eq] at hW
  simp only [Region.takeB, Bool.and_eq_true, decide_eq_true_eq, hi, Option.map_some, Option.getD_some] at hB
  obtain ⟨⟨⟨h1, h2⟩, h3⟩, h4⟩ := hW
  obtain ⟨⟨⟨⟨b1, b2⟩, b3⟩, b4⟩, b5⟩ := hB
  obtain ⟨v, hv, hk⟩ := h _ (fun _ h => h)
  exact wpMix_first hi (Region.noSelect_spec h1) h2 h3 h4 b4 b5 hdone f listed a w (Region.headB_spec b1) (Region.free_spec hi b2) (by simpa using b3) (.inl ⟨hw, hv⟩) hk

/-- A loud operation that alone may come up now. -/
theorem wpMix_one {i : Nat} {f : Nat} {listed : Array Bool} {a : Act} {w : World} (hC : C w) (hr : Region.ready md ops listed = [i]) (hin : i < n)
    (h : wpOp P ops NoExit i (wpMix P md ops C n L f (listed.setIfInBounds i true)) a w) : wpMix P md ops C n L (f + 1) listed a w :=
  ⟨hC, by rw [hr]; simp, fun j hj => by rw [hr] at hj; obtain rfl : j = i := by simpa using hj
                                        exact ⟨hin, h⟩⟩

/-- 'wpOp' off a law on 'wpList'. -/
theorem wpOp_of_list {i : Nat} {o : Oper} {a : Act} {w : World} {K : Act → World → Prop} (hi : ops[i]? = some o) (h : wpList P ops (fun e a w => e = .normal ∧ K a w) [o] a w) : wpOp P ops NoExit i K a w := by
  unfold wpOp
  simp only [hi]
  unfold wpList at h
  split
  · rename_i hw
    simp only [hw, if_true] at h
    rcases h with h | ⟨_, _, _, hf, _⟩
    · exact .inl (Oper.wp_mono2 (fun a w h => (show _ ∧ _ from h).2) (fun e a w hne h => absurd h.1 hne) h)
    · cases hf
  · rename_i hw
    simp only [hw] at h
    exact (show _ ∧ _ from h).2

/-- **THE REGION**: the first n operations by 'wpMix', then the last one. -/
theorem wp_region_mixed {id : Nat} {Q : Exit → Act → World → Prop} {a : Act} {w : World} {l : List Oper} {o : Oper} (hm : P.follows .mixedOrders = true) (n : Nat) (hl : l.length = n + 1)
    (hend : ∀ listed a w, (listed = (Array.replicate (n + 1) true).setIfInBounds n false ∧ wpList P l.toArray Q [o] a w) → wpAny P .any l.toArray Q 1 listed a w)
    (h : wpMix P .any l.toArray C n (fun listed a w => listed = (Array.replicate (n + 1) true).setIfInBounds n false ∧ wpList P l.toArray Q [o] a w) n (Array.replicate (n + 1) false) a { w with drawn := w.drawn + 1 }) : (Code.region id l.toArray true).wp P Q a w := by
  refine wp_region_any hm ?_
  have := wpAny_of_mix hend _ _ _ _ h
  simpa [hl] using this

theorem wpAny_last {n : Nat} {Q : Exit → Act → World → Prop} {l : List Oper} {o : Oper} (ho : l[n]? = some o)
    (hr : Region.ready md l.toArray ((Array.replicate (n + 1) true).setIfInBounds n false) = [n])
    (hr2 : Region.ready md l.toArray (((Array.replicate (n + 1) true).setIfInBounds n false).setIfInBounds n true) = []) :
    ∀ listed a w, (listed = (Array.replicate (n + 1) true).setIfInBounds n false ∧ wpList P l.toArray Q [o] a w) → wpAny P md l.toArray Q 1 listed a w := by
  rintro listed a w ⟨rfl, h⟩
  refine wpAny_all hr (by simp) fun i hi => ?_
  obtain rfl : i = n := by simpa using hi
  have hw : wpOp P l.toArray Q i (wpList P l.toArray Q []) a w := by unfold wpOp; simp only [List.getElem?_toArray, ho]; exact h
  exact wpOp_mono (fun a' w' h' => ⟨hr2, h'⟩) hw

/-- Quiet operations by their run's equation. -/
theorem quiet_run {o : Oper} {a : Act} {K : Act → Prop} {v : Value} (hv : ∀ w, C w → (execOp a.eval o).run P w = .ok (.value v) w) (hk : K (a.put o.dst v)) : o.quiet P a C K :=
  ⟨v, fun w hw => by unfold Oper.quietAt; rw [hv w hw]; exact ⟨rfl, rfl⟩, hk⟩
theorem quiet_load {o : Oper} {a : Act} {K : Act → Prop} (ty : TypeId) (x : Operand) (ho : o.op = .load ty x) (v : Value) (hv : ∀ w, C w → (Instr.loadAt ty (a.eval x)).run P w = .ok v w) (hk : K (a.put o.dst v)) : o.quiet P a C K :=
  quiet_run (fun w hw => by unfold execOp; simp only [ho, Sem.run_bind, hv w hw, Result.andThen_ok, Sem.run_pure]) hk
theorem quiet_lookup {o : Oper} {a : Act} {K : Act → Prop} (ty : TypeId) (x y : Operand) (ok : Bool) (ho : o.op = .lookup ty x y ok) (v : Value) (hv : ∀ w, C w → (Instr.lookup ty (a.eval x) (a.eval y) ok).run P w = .ok v w) (hk : K (a.put o.dst v)) : o.quiet P a C K :=
  quiet_run (fun w hw => by unfold execOp; simp only [ho, Sem.run_bind, hv w hw, Result.andThen_ok, Sem.run_pure]) hk
theorem quiet_build {o : Oper} {a : Act} {K : Act → Prop} (t : TypeId) (parts : Array (Nat × Operand)) (ho : o.op = .build t parts) (cells : Array Value) (hv : P.built t (parts.toList.map fun p => (p.1, a.eval p.2)) = some cells) (hk : K (a.put o.dst (.agg cells))) : o.quiet P a C K :=
  quiet_run (fun w hw => by
    have hv' : P.built t (parts.map fun (i, x) => (i, a.eval x)).toList = some cells := by rw [Array.toList_map]; exact hv
    unfold execOp; simp only [ho, Sem.run_bind, run_build w t _ cells hv', Result.andThen_ok, Sem.run_pure]) hk
theorem quiet_len {o : Oper} {a : Act} {K : Act → Prop} (x : Operand) (ts : Array TypeId) (ho : o.op = .call { callee := .builtin .len, args := #[x], argTypes := ts }) (v : Value) (hv : ∀ w, C w → (Builtin.len_ ts o.type #[a.eval x]).run P w = .ok v w) (hk : K (a.put o.dst v)) : o.quiet P a C K :=
  quiet_run (fun w hw => by
    have := hv w hw
    unfold execOp
    simp [ho, resolve, invoke, builtin, this]) hk
theorem wpQuiet_by {Q : Act → Prop} {o : Oper} {rest : List Oper} {a : Act} (hw : Region.wanted o (yielded ops a.tmps) = true) (h : ∀ K : Act → Prop, (∀ a, wpQuiet P ops C Q rest a → K a) → o.quiet P a C K) : wpQuiet P ops C Q (o :: rest) a :=
  wpQuiet_step fun K hK => by rw [if_pos hw]; exact h K hK

/-! ### The region, its checks as one Bool -/
def mixBase (n : Nat) : Array Bool := (Array.replicate (n + 1) true).setIfInBounds n false
def mixEnd (P : Program) (l : List Oper) (n : Nat) (Q : Exit → Act → World → Prop) (o : Oper) : Array Bool → Act → World → Prop :=
  fun listed a w => listed = mixBase n ∧ wpList P l.toArray Q [o] a w
def mixB (l : List Oper) (n : Nat) : Bool :=
  Region.wholeB .any l.toArray n && decide (l.length = n + 1) && decide (Region.ready .any l.toArray (mixBase n) = [n]) && decide (Region.ready .any l.toArray ((mixBase n).setIfInBounds n true) = [])

theorem wp_region_mix {id : Nat} {Q : Exit → Act → World → Prop} {a : Act} {w : World} {l : List Oper} {o : Oper} (C : World → Prop) (n : Nat) (hm : P.follows .mixedOrders = true) (hR : mixB l n = true) (ho : l.drop n = [o])
    (h : mixB l n = true → wpMix P .any l.toArray C n (mixEnd P l n Q o) n (Array.replicate (n + 1) false) a (w.drewN 1)) : (Code.region id l.toArray true).wp P Q a w := by
  have h1 := h hR
  have ho' : l[n]? = some o := by have := congrArg (·[0]?) ho; simpa using this
  simp only [mixB, Bool.and_eq_true, decide_eq_true_eq] at hR
  obtain ⟨⟨⟨_, hl⟩, r1⟩, r2⟩ := hR
  exact wp_region_mixed hm n hl (wpAny_last ho' r1 r2) h1

theorem wpMix_step {f : Nat} {Q : Exit → Act → World → Prop} {listed : Array Bool} {a : Act} {w : World} {l rest : List Oper} {oe o : Oper} (hR : mixB l n = true) (i : Nat)
    (hi : l.drop i = o :: rest) (hB : Region.takeB .any l.toArray n i listed = true) (hw : Region.wanted o (yielded l.toArray a.tmps) = true)
    (h : ∀ K : Act → Prop, (∀ a', wpMix P .any l.toArray C n (mixEnd P l n Q oe) f (listed.setIfInBounds i true) a' w → K a') → o.quiet P a C K) : wpMix P .any l.toArray C n (mixEnd P l n Q oe) (f + 1) listed a w := by
  simp only [mixB, Bool.and_eq_true, decide_eq_true_eq] at hR
  obtain ⟨⟨⟨h1, _⟩, r1⟩, _⟩ := hR
  refine wpMix_take h1 (fun listed a w hL j hj => ?_) (by have := congrArg (·[0]?) hi; simpa using this) hB hw h
  obtain ⟨rfl, _⟩ := hL
  rw [r1] at hj
  obtain rfl : j = n := by simpa using hj
  exact Nat.le_refl _

theorem wpMix_loud {f : Nat} {Q : Exit → Act → World → Prop} {listed : Array Bool} {a : Act} {w : World} {l rest : List Oper} {oe o : Oper} (i : Nat)
    (hi : l.drop i = o :: rest) (hr : Region.ready .any l.toArray listed = [i]) (hin : i < n) (hC : C w)
    (h : wpList P l.toArray (fun e a w => e = .normal ∧ wpMix P .any l.toArray C n (mixEnd P l n Q oe) f (listed.setIfInBounds i true) a w) [o] a w) : wpMix P .any l.toArray C n (mixEnd P l n Q oe) (f + 1) listed a w :=
  wpMix_one hC hr hin (wpOp_of_list (by have := congrArg (·[0]?) hi; simpa using this) h)

theorem wpList_buildSlice' {rest : List Oper} {o : Oper} {a : Act} {w : World} {Q : Exit → Act → World → Prop} (hg : o.guard = none) (t e : TypeId) (len : Nat) (parts : Array (Nat × Operand)) (ho : o.op = .buildSlice t len parts)
    (cells : Array Value) (ie : TypeInfo) (z : Value)
    (hu : P.underlying t = some (.slice e)) (hie : P.info? e = some ie) (hz : ie.zero = some z) (hsmall : ¬ len * ie.size > 2 ^ 24) (hpos : ¬ len * ie.size = 0)
    (hf : Instr.fill (fun i => some (i * ie.size, ie.size)) ((Array.range (len * ie.size)).map (z.cells[· % z.cells.size]!)) (parts.toList.map fun p => (p.1, a.eval p.2)) = some cells)
    (h : wpList P ops Q rest (a.put o.dst (.slice (some ⟨w.heap.size, 0, none⟩) len len)) (w.alloc (.cells cells e))) : wpList P ops Q (o :: rest) a w :=
  wpList_buildSlice hg t e len parts ho cells ie z hu hie hz hsmall hpos (by rw [Array.toList_map]; exact hf) h
end
end Go
