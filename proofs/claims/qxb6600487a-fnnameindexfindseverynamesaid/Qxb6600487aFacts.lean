import Derived.Test.Qxb6600487aAddGrow
import Derived.Test.Qxb6600487aRuns
namespace Go.Proofs.Qxb6600487a
open Go.RowKit Dec Go.Maps
set_option linter.unusedVariables false

/-! ### What the index holds after the names U: plain facts -/

def nth9 (U : List ByteArray) (v : Nat) : ByteArray := U.getD v ByteArray.empty
def inTab (s : ByteArray) (v : Nat) : Option Nat := match dec (nb s) with
  | some k => if (k : Int) < 4 * (v : Int) + 65536 then some k else none
  | none => none
def outB (U : List ByteArray) (v : Nat) : Bool := (inTab (nth9 U v) v).isNone
def farB (U : List ByteArray) (v : Nat) : Bool := (dec (nb (nth9 U v))).isSome && outB U v

theorem nth9_old {U : List ByteArray} {s : ByteArray} {v : Nat} (h : v < U.length) : nth9 (U ++ [s]) v = nth9 U v := by
  unfold nth9
  rw [List.getD_eq_getElem?_getD, List.getElem?_append_left h, ← List.getD_eq_getElem?_getD]
theorem nth9_new (U : List ByteArray) (s : ByteArray) : nth9 (U ++ [s]) U.length = s := by
  unfold nth9
  rw [List.getD_eq_getElem?_getD, List.getElem?_append_right (Nat.le_refl _)]; simp

theorem cnt_congr {f g : Nat → Bool} (k : Nat) (h : ∀ v, v < k → f v = g v) : cnt f k = cnt g k := by
  induction k with
  | zero => rfl
  | succ k ih => rw [cnt_succ, cnt_succ, ih (fun v hv => h v (by omega)), h k (by omega)]

theorem cnt_not (f : Nat → Bool) (k : Nat) : cnt f k + cnt (fun v => !f v) k = k := by
  induction k with
  | zero => rfl
  | succ k ih => rw [cnt_succ, cnt_succ]; cases f k <;> simp <;> omega

theorem outB_old {U : List ByteArray} {s : ByteArray} {v : Nat} (h : v < U.length) : outB (U ++ [s]) v = outB U v := by unfold outB; rw [nth9_old h]
theorem farB_old {U : List ByteArray} {s : ByteArray} {v : Nat} (h : v < U.length) : farB (U ++ [s]) v = farB U v := by unfold farB; rw [nth9_old h, outB_old h]

structure Facts (U : List ByteArray) (T : List Int) (dn : Int) (D : DataW Unit) : Prop where
  tab : ∀ v k, v < U.length → inTab (nth9 U v) v = some k → k < T.length ∧ T.getD k 0 = (v : Int) + 1
  only : ∀ k, T.getD k 0 ≠ 0 → ∃ v, v < U.length ∧ inTab (nth9 U v) v = some k
  has : ∀ b, has D (.string b) = true → ∃ v, v < U.length ∧ inTab (nth9 U v) v = none ∧ (nth9 U v).data.toList = b
  at_ : ∀ v, v < U.length → inTab (nth9 U v) v = none → Maps.has D (key (nth9 U v)) = true ∧ ∀ z, D.atKey (key (nth9 U v)) z = .lit (.int .i32 (v : Int))
  size : Maps.size D = cnt (outB U) U.length
  tidy : Tidy D
  far : dn = (cnt (farB U) U.length : Int)

theorem Facts.start : Facts [] [] 0 (.map [] : DataW Unit) where
  tab := fun v k h => by simp at h
  only := fun k h => by simp at h
  has := fun b h => by simp [Maps.has] at h
  at_ := fun v h => by simp at h
  size := rfl
  tidy := tidy_empty
  far := rfl

theorem data_inj {s t : ByteArray} (h : s.data.toList = t.data.toList) : s = t := by
  cases s; cases t
  simp only at h
  congr 1
  exact Array.toList_inj.1 h

theorem key_ne {s t : ByteArray} (h : s ≠ t) : key s ≠ key t := by
  unfold key
  intro e
  simp only [Lit.string.injEq] at e
  exact h (data_inj e)

theorem nth9_mem {U : List ByteArray} {v : Nat} (h : v < U.length) : nth9 U v ∈ U := by
  unfold nth9
  rw [List.getD_eq_getElem?_getD, List.getElem?_eq_getElem h]
  exact List.getElem_mem h

theorem isKeyLit_key (s : ByteArray) : WideAt.IsKeyLit (key s) := by unfold key; trivial

/-- A name goes into the map. -/
theorem Facts.put {U : List ByteArray} {T : List Int} {dn : Int} {D : DataW Unit} (h : Facts U T dn D) {s : ByteArray} (hnew : s ∉ U) (hs : inTab s U.length = none) (d : Int)
    (hd : d = dn + if (dec (nb s)).isSome then 1 else 0) : Facts (U ++ [s]) T d (D.put (key s) (.lit (.int .i32 (U.length : Int)))) := by
  have hne : ∀ v, v < U.length → key (nth9 U v) ≠ key s := fun v hv => key_ne (fun e => hnew (e ▸ nth9_mem hv))
  have hout : outB (U ++ [s]) U.length = true := by unfold outB; rw [nth9_new, hs]; rfl
  refine ⟨?_, ?_, ?_, ?_, ?_, h.tidy.put (isKeyLit_key s) _, ?_⟩
  · intro v k hv hk
    rw [List.length_append, List.length_singleton] at hv
    by_cases e : v = U.length
    · subst e; rw [nth9_new, hs] at hk; cases hk
    · rw [nth9_old (by omega)] at hk; exact h.tab v k (by omega) hk
  · intro k hk
    obtain ⟨v, hv, e⟩ := h.only k hk
    exact ⟨v, by simp; omega, by rw [nth9_old hv]; exact e⟩
  · intro b hb
    by_cases e : Lit.string b = key s
    · refine ⟨U.length, by simp, by rw [nth9_new]; exact hs, ?_⟩
      rw [nth9_new]
      unfold key at e
      simp only [Lit.string.injEq] at e
      exact e.symm
    · rw [has_put_other e] at hb
      obtain ⟨v, hv, e1, e2⟩ := h.has b hb
      exact ⟨v, by simp; omega, by rw [nth9_old hv]; exact e1, by rw [nth9_old hv]; exact e2⟩
  · intro v hv hn
    rw [List.length_append, List.length_singleton] at hv
    by_cases e : v = U.length
    · subst e
      rw [nth9_new]
      exact ⟨has_put_same h.tidy.isMap (isKeyLit_key s) _, fun z => atKey_put_same h.tidy.isMap (isKeyLit_key s) _ z⟩
    · have hv' : v < U.length := by omega
      rw [nth9_old hv'] at hn ⊢
      obtain ⟨a1, a2⟩ := h.at_ v hv' hn
      exact ⟨by rw [has_put_other (hne v hv')]; exact a1, fun z => by rw [atKey_put_other (hne v hv')]; exact a2 z⟩
  · have hnh : Maps.has D (key s) = false := by
      cases hh : Maps.has D (key s)
      · rfl
      · obtain ⟨v, hv, _, e⟩ := h.has s.data.toList hh
        exact absurd (data_inj e ▸ nth9_mem hv) hnew
    rw [size_put h.tidy, hnh, List.length_append, List.length_singleton, cnt_succ, hout, cnt_congr (g := outB U) U.length (fun v hv => outB_old hv), h.size]
    simp
  · have hfar : farB (U ++ [s]) U.length = (dec (nb s)).isSome := by unfold farB; rw [hout, nth9_new]; simp
    rw [List.length_append, List.length_singleton, cnt_succ, hfar, cnt_congr (g := farB U) U.length (fun v hv => farB_old hv), hd, h.far]
    cases (dec (nb s)).isSome <;> simp

/-- A name goes into the table, at k. -/
theorem Facts.set {U : List ByteArray} {T T' : List Int} {dn : Int} {D : DataW Unit} (h : Facts U T dn D) {s : ByteArray} {k : Nat} (hnew : s ∉ U) (hs : inTab s U.length = some k)
    (hk : k < T'.length) (hle : T.length ≤ T'.length) (hT : ∀ j, T'.getD j 0 = if j = k then (U.length : Int) + 1 else T.getD j 0) : Facts (U ++ [s]) T' dn D := by
  have hdec : dec (nb s) = some k := by
    unfold inTab at hs
    split at hs
    · rename_i k' e
      split at hs
      · rw [e]; exact hs
      · cases hs
    · cases hs
  have huniq : ∀ v, v < U.length → inTab (nth9 U v) v ≠ some k := by
    intro v hv e
    have : dec (nb (nth9 U v)) = some k := by
      unfold inTab at e
      split at e
      · rename_i k' e'
        split at e
        · rw [e']; exact e
        · cases e
      · cases e
    have e2 := dec_inj this hdec
    refine hnew ?_
    have : nth9 U v = s := data_inj (map_toNat_inj _ _ e2)
    rw [← this]; exact nth9_mem hv
  have hout : outB (U ++ [s]) U.length = false := by unfold outB; rw [nth9_new, hs]; rfl
  refine ⟨?_, ?_, ?_, ?_, ?_, h.tidy, ?_⟩
  · intro v j hv hj
    rw [List.length_append, List.length_singleton] at hv
    by_cases e : v = U.length
    · subst e
      rw [nth9_new, hs] at hj
      cases hj
      exact ⟨hk, by rw [hT, if_pos rfl]⟩
    · have hv' : v < U.length := by omega
      rw [nth9_old hv'] at hj
      obtain ⟨a1, a2⟩ := h.tab v j hv' hj
      refine ⟨by omega, ?_⟩
      rw [hT, if_neg ?_]
      · exact a2
      · rintro rfl; exact huniq v hv' hj
  · intro j hj
    rw [hT] at hj
    by_cases e : j = k
    · subst e; exact ⟨U.length, by simp, by rw [nth9_new]; exact hs⟩
    · rw [if_neg e] at hj
      obtain ⟨v, hv, e1⟩ := h.only j hj
      exact ⟨v, by simp; omega, by rw [nth9_old hv]; exact e1⟩
  · intro b hb
    obtain ⟨v, hv, e1, e2⟩ := h.has b hb
    exact ⟨v, by simp; omega, by rw [nth9_old hv]; exact e1, by rw [nth9_old hv]; exact e2⟩
  · intro v hv hn
    rw [List.length_append, List.length_singleton] at hv
    by_cases e : v = U.length
    · subst e; rw [nth9_new, hs] at hn; cases hn
    · have hv' : v < U.length := by omega
      rw [nth9_old hv'] at hn ⊢
      exact h.at_ v hv' hn
  · rw [List.length_append, List.length_singleton, cnt_succ, hout, cnt_congr (g := outB U) U.length (fun v hv => outB_old hv), h.size]; simp
  · have hfar : farB (U ++ [s]) U.length = false := by unfold farB; rw [hout]; simp
    rw [List.length_append, List.length_singleton, cnt_succ, hfar, cnt_congr (g := farB U) U.length (fun v hv => farB_old hv), h.far]; simp
end Go.Proofs.Qxb6600487a
