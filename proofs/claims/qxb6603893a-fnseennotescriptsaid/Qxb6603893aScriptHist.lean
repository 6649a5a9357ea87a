/-
  The history under a script: exact notes, the map's meaning.
-/
import Derived.Test.Qxb6603893aHist
import Derived.Test.Qxb6603893aScript
import Derived.Test.Qxb6603893aSmall
namespace Go.Proofs.Qxb6603893a
open Go.RowKit Go.Maps
set_option linter.unusedVariables false

/-- Rows that are no history's struct and no history's changes stay. -/
def TF (w w' : World) : Prop := ∀ (k : Nat) (c : Array Value) (t : TypeId) (f : Nat × Nat), w.heap[k]? = some (.cells c t f) → t ≠ 71 → t ≠ 73 → w'.heap[k]? = some (.cells c t f)
theorem TF.trans {a b c : World} (h : TF a b) (k : TF b c) : TF a c := fun q x t f h1 h2 h3 => k q x t f (h q x t f h1 h2 h3) h2 h3
theorem TF.of_below {w w' : World} (h : Below w.heap.size w w') : TF w w' := fun q x t f h1 _ _ => (h.block q (lt_of_heap h1)).trans h1

theorem noteX {S h : Nat} {e : Int} {mk : Bool} {mb : Nat} {old lim : Int} {es : List Ent} {ms : Nat} {M : DataW Unit} {w : World} (H : Hst S h e mk (some mb) old lim es ms M w) (hSw : S ≤ w.heap.size) {D : List Value} (hD : Dev D) (wl ct : Int) (hd : Bool)
    (hes : es.length ≤ 1000000) (hg : Goods es) (hms : ms < maxLen) (hl0 : 0 ≤ lim) (hl1 : lim ≤ 9223372036854775807) (hwe : (Lit.int .u64 (bump mk e)).wf = true) :
    Calls Try.prog 10 #[.pointer (some ⟨h, 0, none⟩), .agg D.toArray, .int .i64 wl, .int .u32 ct, .bool hd] w fun ex w' => ex = .returned (.tuple #[]) ∧
      ((((Maps.has M (kl D) = true ∧ M.atKey (kl D) (.lit (.int .u64 0)) = .lit (.int .u64 (bump mk e))) ∧ Hst S h (bump mk e) false (some mb) old lim es ms M w') ∨
        (¬ (Maps.has M (kl D) = true ∧ M.atKey (kl D) (.lit (.int .u64 0)) = .lit (.int .u64 (bump mk e))) ∧ Hst S h (bump mk e) false (some mb) (cutOld lim old (es ++ [⟨bump mk e, D, wl, ct, hd⟩])) lim (cutEnts lim (es ++ [⟨bump mk e, D, wl, ct, hd⟩])) (ms + 1) (M.put (kl D) (.lit (.int .u64 (bump mk e)))) w')) ∧ Below S w w' ∧ TF w w') := by
  obtain ⟨chv, h1, h2⟩ := H.main
  have hb0 : ∀ k, k < w.heap.size → (w.alloc (.cells D.toArray 34)).heap[k]? = w.heap[k]? := fun k hk => Below.heap_alloc _ _ k hk
  have hh := (hb0 h (lt_of_heap h1)).trans h1
  have h4 := ((H.next hb0).map mb rfl).2
  have hr0 : (w.alloc (.cells D.toArray 34)).ownsRow S 73 20 chv es.length (flat es) := h2.alloc _
  refine zznote10 (Φ := fun _ w' => (((Maps.has M (kl D) = true ∧ M.atKey (kl D) (.lit (.int .u64 0)) = .lit (.int .u64 (bump mk e))) ∧ Hst S h (bump mk e) false (some mb) old lim es ms M w') ∨
        (¬ (Maps.has M (kl D) = true ∧ M.atKey (kl D) (.lit (.int .u64 0)) = .lit (.int .u64 (bump mk e))) ∧ Hst S h (bump mk e) false (some mb) (cutOld lim old (es ++ [⟨bump mk e, D, wl, ct, hd⟩])) lim (cutEnts lim (es ++ [⟨bump mk e, D, wl, ct, hd⟩])) (ms + 1) (M.put (kl D) (.lit (.int .u64 (bump mk e)))) w')) ∧ Below S w w' ∧ TF w w') hD ?_
  by_cases hq : Maps.has M (kl D) = true ∧ M.atKey (kl D) (.lit (.int .u64 0)) = .lit (.int .u64 (bump mk e))
  · refine (note22_old h e mk chv mb old lim D _ _ hd _ ms M hh h4 hD hq.1 hq.2).mono ?_
    rintro ex w' ⟨rfl, hbk, hgr⟩
    refine ⟨rfl, .inl ⟨hq, ⟨H.hS, ⟨chv, hbk, ownsRow_of_block hr0 fun k hk => ?_⟩, fun mb' hm' => ?_⟩⟩, ((Below.refl S w).alloc hSw _).grown hgr (by simp; omega) (by rintro k hk; cases hk; exact H.hS), fun k c t f q1 q2 q3 => ?_⟩
    · exact hgr.block k (hr0.lt k hk).2 fun e' => row_ne hr0 hh (by decide) (by rw [hk]; exact e'.symm)
    · cases hm'
      exact ⟨(H.map mb rfl).1, ownsMap_of_block h4 (hgr.block mb h4.lt fun e' => map_cells_ne h4 hh (by cases e'; rfl))⟩
    · have q1' := (hb0 k (lt_of_heap q1)).trans q1
      exact (hgr.block k (lt_of_heap q1') (by simpa using heap_ne q1' hh q2)).trans q1'
  · refine (note22_new S h e mk chv mb old lim D wl ct hd _ ms M es hh h4 hms hr0 (by simp; omega) hes hg hD hl0 hl1 hwe hq).mono ?_
    rintro ex w' ⟨rfl, N⟩
    have hSb : S ≤ mb := (H.map mb rfl).1
    have hrow : ∀ k, chv.ownBlock = some k → S ≤ k := fun k hk => (h2.lt k hk).1
    refine ⟨rfl, .inr ⟨hq, ⟨H.hS, N.main, fun mb' hm' => ?_⟩⟩, ?_, fun k c t f q1 q2 q3 => ?_⟩
    · cases hm'
      exact ⟨hSb, N.map⟩
    · refine ⟨N.os, N.tape, N.output, ?_, fun k hk => ?_⟩
      · have := N.size
        simp at this
        omega
      · have hmn : k ≠ mb := by omega
        have hkn : k ≠ h := by have := H.hS; omega
        exact (N.block k (by simp; omega) hkn hmn fun e' => by have := hrow k e'.symm; omega).trans (hb0 k (by omega))
    · have q1' := (hb0 k (lt_of_heap q1)).trans q1
      exact (N.block k (lt_of_heap q1') (heap_ne q1' hh q2) (map_cells_ne h4 q1') (row_ne hr0 q1' q3)).trans q1'

/-- The mark is set. -/
theorem markH {S h : Nat} {e : Int} {mk : Bool} {mo : Option Nat} {old lim : Int} {es : List Ent} {ms : Nat} {M : DataW Unit} {w : World} (H : Hst S h e mk mo old lim es ms M w) :
    Calls Try.prog 17 #[.pointer (some ⟨h, 0, none⟩)] w fun ex w' => ex = .returned (.tuple #[]) ∧ (Hst S h e true mo old lim es ms M w' ∧ Below S w w' ∧ TF w w') := by
  obtain ⟨chv, h1, h2⟩ := H.main
  refine (mark17 w h _ _ _ _ _ _ h1).mono ?_
  rintro ex w' ⟨rfl, rfl⟩
  have ho : ∀ k, k ≠ h → (w.setCell ⟨h, 1, none⟩ (.bool true)).heap[k]? = w.heap[k]? := fun k hk => heap_setCell_other _ _ _ _ hk
  refine ⟨rfl, ⟨H.hS, ⟨chv, (heap_setCell_same w h 1 _ 71 (.bool true) h1).trans rfl, ownsRow_of_block h2 fun k hk => ho k fun e' => row_ne h2 h1 (by decide) (by rw [hk, e'])⟩, fun mb hm => ?_⟩, (Below.refl S w).setCell (p := ⟨h, 1, none⟩) H.hS _, fun k c t f q1 q2 _ => (ho k (heap_ne q1 h1 q2)).trans q1⟩
  obtain ⟨h3, h4⟩ := H.map mb hm
  exact ⟨h3, ownsMap_of_block h4 (ho mb fun e' => map_cells_ne h4 h1 e'.symm)⟩

open Script in
/-- What the map means behind j notes. -/
structure MapIs (s : Sc) (j : Nat) (M : DataW Unit) : Prop where
  has : ∀ c, Maps.has M c = true ↔ ∃ k, k < j ∧ s.key k = c
  at_ : ∀ k, k < j → (∀ k', k < k' → k' < j → s.key k' ≠ s.key k) → M.atKey (s.key k) (.lit (.int .u64 0)) = .lit (.int .u64 (ep s k : Nat))
  size : Maps.size M = lasts s j j

open Script in
theorem MapIs.start (s : Sc) : MapIs s 0 (.map []) :=
  ⟨fun c => ⟨fun h => by simp [Maps.has] at h, fun ⟨k, h, _⟩ => by omega⟩, fun k h => by omega, by simp [Maps.size, lasts]⟩

open Script in
theorem MapIs.hit {s : Sc} {j : Nat} {M : DataW Unit} (H : MapIs s j M) : (Maps.has M (s.key j) = true ∧ M.atKey (s.key j) (.lit (.int .u64 0)) = .lit (.int .u64 (ep s j : Nat))) ↔ Again s j := by
  constructor
  · rintro ⟨h1, h2⟩
    obtain ⟨k, q1, q2, q3⟩ := last_ex (p := fun k => s.key k = s.key j) ((H.has _).1 h1)
    have h3 := H.at_ k q1 fun k' r1 r2 r3 => q3 k' r1 r2 (r3.trans q2)
    rw [q2, h2] at h3
    simp only [DataW.lit.injEq, Lit.int.injEq, true_and] at h3
    exact (again_iff s j k q1 q2 q3).1 (by omega)
  · intro hA
    obtain ⟨q, r1, r2, r3⟩ := hA
    have h1 := (H.has (s.key j)).2 ⟨q, r1, r3⟩
    obtain ⟨k, q1, q2, q3⟩ := last_ex (p := fun k => s.key k = s.key j) ((H.has _).1 h1)
    have h3 := H.at_ k q1 fun k' r1 r2 r3 => q3 k' r1 r2 (r3.trans q2)
    have h4 := (again_iff s j k q1 q2 q3).2 ⟨q, r1, r2, r3⟩
    rw [q2, h4] at h3
    exact ⟨h1, h3⟩

open Script in
theorem MapIs.again {s : Sc} {j : Nat} {M : DataW Unit} (H : MapIs s j M) (hA : Again s j) : MapIs s (j + 1) M := by
  obtain ⟨h1, h2⟩ := H.hit.2 hA
  have hex := (H.has _).1 h1
  refine ⟨fun c => ⟨fun h => ?_, fun ⟨k, q1, q2⟩ => ?_⟩, fun k hk hl => ?_, ?_⟩
  · obtain ⟨k, q1, q2⟩ := (H.has c).1 h
    exact ⟨k, by omega, q2⟩
  · by_cases e : k = j
    · subst e
      rw [← q2]
      exact h1
    · exact (H.has c).2 ⟨k, by omega, q2⟩
  · by_cases e : k = j
    · subst e
      exact h2
    · exact H.at_ k (by omega) fun k' r1 r2 => hl k' r1 (by omega)
  · rw [lasts_succ, if_pos hex, H.size]
    rfl

open Script in
theorem MapIs.put {s : Sc} {j : Nat} {M : DataW Unit} (H : MapIs s j M) (hm : IsMap M) (ht : Tidy M) (hk : WideAt.IsKeyLit (s.key j)) : MapIs s (j + 1) (M.put (s.key j) (.lit (.int .u64 (ep s j : Nat)))) := by
  refine ⟨fun c => ?_, fun k hk' hl => ?_, ?_⟩
  · by_cases e : c = s.key j
    · subst e
      exact ⟨fun _ => ⟨j, by omega, rfl⟩, fun _ => has_put_same hm hk _⟩
    · rw [has_put_other e, H.has]
      constructor
      · rintro ⟨k, q1, q2⟩
        exact ⟨k, by omega, q2⟩
      · rintro ⟨k, q1, q2⟩
        refine ⟨k, ?_, q2⟩
        have : k ≠ j := fun e' => e (by rw [← q2, e'])
        omega
  · by_cases e : k = j
    · subst e
      exact atKey_put_same hm hk _ _
    · have hne : s.key k ≠ s.key j := fun e' => hl j (by omega) (by omega) e'.symm
      rw [atKey_put_other hne]
      exact H.at_ k (by omega) fun k' r1 r2 => hl k' r1 (by omega)
  · rw [Go.Maps.size_put ht, lasts_succ]
    by_cases he : ∃ k, k < j ∧ s.key k = s.key j
    · rw [if_pos ((H.has _).2 he), if_pos he, H.size]
      rfl
    · have hn : ¬ Maps.has M (s.key j) = true := fun h => he ((H.has _).1 h)
      rw [if_neg hn, if_neg he, H.size]
end Go.Proofs.Qxb6603893a
