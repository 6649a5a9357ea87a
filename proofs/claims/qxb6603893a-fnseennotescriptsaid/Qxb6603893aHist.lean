/-
  The history as its callers see it: note, read, last.
-/
import Derived.Test.Qxb6603893aBuild
import Derived.Test.Qxb6603893aZz
import Derived.Test.Qxb6603893aLast
namespace Go.Proofs.Qxb6603893a
open Go.RowKit Go.Maps
set_option linter.unusedVariables false

structure Hst (S h : Nat) (e : Int) (mk : Bool) (mo : Option Nat) (old lim : Int) (es : List Ent) (ms : Nat) (M : DataW Unit) (w : World) : Prop where
  hS : S ≤ h
  main : ∃ chv, w.heap[h]? = some (.cells #[.int .u64 e, .bool mk, chv, .map mo, .int .u64 old, .int .i64 lim] 71 (0, 0)) ∧ w.ownsRow S 73 20 chv es.length (flat es)
  map : ∀ mb, mo = some mb → S ≤ mb ∧ w.ownsMap Try.prog 65 (plainElem Try.prog 28) mb ms M

theorem Hst.next {S h : Nat} {e : Int} {mk : Bool} {mo : Option Nat} {old lim : Int} {es : List Ent} {ms : Nat} {M : DataW Unit} {w w' : World} (H : Hst S h e mk mo old lim es ms M w) (hb : ∀ k, k < w.heap.size → w'.heap[k]? = w.heap[k]?) : Hst S h e mk mo old lim es ms M w' := by
  obtain ⟨chv, h1, h2⟩ := H.main
  refine ⟨H.hS, ⟨chv, (hb _ (lt_of_heap h1)).trans h1, ownsRow_of_block h2 fun k hk => hb k (h2.lt k hk).2⟩, fun mb hm => ?_⟩
  obtain ⟨h3, h4⟩ := H.map mb hm
  exact ⟨h3, ownsMap_of_block h4 (hb _ h4.lt)⟩

theorem chv_form {w : World} {S : Nat} {chv : Value} {n : Nat} {xs : List Value} (h : w.ownsRow S 73 20 chv n xs) : ∃ ao cap, chv = .slice ao n cap := by
  rcases h.2 with ⟨rfl, rfl⟩ | ⟨g, cap, cur, rfl, _⟩
  · exact ⟨_, _, rfl⟩
  · exact ⟨_, _, rfl⟩

def mlen (mo : Option Nat) (M : DataW Unit) : Int := if mo.isNone then 0 else (Maps.size M : Int)
noncomputable def mhas (mo : Option Nat) (M : DataW Unit) (D : List Value) : Bool := mo.isSome && Maps.has M (kl D)
noncomputable def mval (mo : Option Nat) (M : DataW Unit) (D : List Value) : Int :=
  if mo.isNone then 0 else match M.atKey (kl D) (.lit (.int .u64 0)) with
    | .lit (.int _ c) => c
    | _ => 0

theorem len_nilmap (w : World) : (Builtin.len_ #[69] 3 #[.map none]).run Try.prog w = .ok (.int .i64 0) w := by
  simp [Builtin.len_, run_underlying Try.underlying69, goInt, go_sem]
theorem look_nilmap (w : World) {D : List Value} (hD : Dev D) : (Instr.lookup 69 (.map none) (.agg D.toArray) true).run Try.prog w = .ok (.tuple #[.int .u64 0, .bool false]) w := by
  have h1 := law65.check w true hD.hkey
  have h3 := zero28 w
  have h5 : (Instr.findKey 65 (.agg D.toArray) []).run Try.prog w = .ok none w := by
    rcases law65.find w hD.hkey [] (by simp) with ⟨r, _⟩ | ⟨j, e, _, r, _⟩
    · exact r
    · cases r
  simp [Instr.lookup, run_underlying Try.underlying69, h1, h3, h5, go_sem]

theorem readH {S h : Nat} {e : Int} {mk : Bool} {mo : Option Nat} {old lim : Int} {es : List Ent} {ms : Nat} {M : DataW Unit} {w : World} (H : Hst S h e mk mo old lim es ms M w) (hn : es.length ≤ 2000000) (hg : Goods es) :
    Calls Try.prog 11 #[.pointer (some ⟨h, 0, none⟩)] w fun ex w' => ∃ B0 B1 B2 B3 B4, ex = .returned (.agg (view e mk B0 B1 B2 B3 B4 es.length mo.isNone (mlen mo M) old lim)) ∧ SeenV w.heap.size B0 B1 B2 B3 B4 es w' ∧ Below w.heap.size w w' := by
  obtain ⟨chv, h1, h2⟩ := H.main
  obtain ⟨ao, cap, rfl⟩ := chv_form h2
  refine read11 h e mk ao es S cap mo old lim (mlen mo M) w h1 hn h2 hg fun w' hb => ?_
  cases mo with
  | none => exact len_nilmap w'
  | some mb =>
    have h4 := (H.map mb rfl).2
    exact (ownsMap_of_block h4 (hb mb h4.lt)).len (e := 28) Try.underlying69 3

theorem lastH {S h : Nat} {e : Int} {mk : Bool} {mo : Option Nat} {old lim : Int} {es : List Ent} {ms : Nat} {M : DataW Unit} {w : World} (H : Hst S h e mk mo old lim es ms M w) {D : List Value} (hD : Dev D) :
    Calls Try.prog 12 #[.pointer (some ⟨h, 0, none⟩), .agg D.toArray] w fun ex w' => ex = .returned (.tuple #[.int .u64 (mval mo M D), .bool (mhas mo M D)]) ∧ Below w.heap.size w w' := by
  obtain ⟨chv, h1, h2⟩ := H.main
  refine last12 h _ _ _ _ _ _ D w h1 hD (mval mo M D) (mhas mo M D) fun w' hb => ?_
  cases mo with
  | none => exact look_nilmap w' hD
  | some mb =>
    have h4 := (H.map mb rfl).2
    obtain ⟨c, r1, r2, _⟩ := look69 (ownsMap_of_block (w' := w') h4 (hb mb h4.lt)) hD
    have := r1 0
    have hv : mval (some mb) M D = c := by simp [mval, r2]
    rw [hv]
    exact this

/-- A note that changes nothing. -/
def Stable (e : Int) (mk : Bool) (mo : Option Nat) (M : DataW Unit) (D : List Value) : Prop :=
  mo = none ∨ (mk = false ∧ Maps.has M (kl D) = true ∧ M.atKey (kl D) (.lit (.int .u64 0)) = .lit (.int .u64 e))

theorem grown_two {w w' : World} {o : Obj} {r : Option Nat} (hb : Below (w.alloc o).heap.size (w.alloc o) w') : w.grownBy w' r :=
  (World.grownBy_alloc w o r).trans ⟨hb.os, hb.tape, hb.output, hb.size, fun k hk _ => hb.block k hk⟩
theorem noteSame {S h : Nat} {e : Int} {mk : Bool} {mo : Option Nat} {old lim : Int} {es : List Ent} {ms : Nat} {M : DataW Unit} {w : World} (H : Hst S h e mk mo old lim es ms M w) (hSw : S ≤ w.heap.size) {D : List Value} (hD : Dev D) (hst : Stable e mk mo M D) (wl ct : Int) (hd : Bool) :
    Calls Try.prog 10 #[.pointer (some ⟨h, 0, none⟩), .agg D.toArray, .int .i64 wl, .int .u32 ct, .bool hd] w fun ex w' => ex = .returned (.tuple #[]) ∧ (Hst S h e mk mo old lim es ms M w' ∧ w.grownBy w' (some h)) := by
  obtain ⟨chv, h1, h2⟩ := H.main
  have hb0 : ∀ k, k < w.heap.size → (w.alloc (.cells D.toArray 34)).heap[k]? = w.heap[k]? := fun k hk => Below.heap_alloc _ _ k hk
  have H0 := H.next hb0
  refine zznote10 (Φ := fun _ w' => Hst S h e mk mo old lim es ms M w' ∧ w.grownBy w' (some h)) hD ?_
  rcases hst with rfl | ⟨rfl, q1, q2⟩
  · refine (note22_nil h _ _ _ _ _ D _ _ hd _ ((hb0 h (lt_of_heap h1)).trans h1)).mono ?_
    rintro ex w' ⟨rfl, hb⟩
    exact ⟨rfl, H0.next hb.block, grown_two hb⟩
  · cases mo with
    | none =>
      refine (note22_nil h _ _ _ _ _ D _ _ hd _ ((hb0 h (lt_of_heap h1)).trans h1)).mono ?_
      rintro ex w' ⟨rfl, hb⟩
      exact ⟨rfl, H0.next hb.block, grown_two hb⟩
    | some mb =>
      have h4 := (H0.map mb rfl).2
      refine (note22_old h e false chv mb old lim D _ _ hd _ ms M ((hb0 h (lt_of_heap h1)).trans h1) h4 hD q1 q2).mono ?_
      rintro ex w' ⟨rfl, hbk, hg⟩
      have hh := (hb0 h (lt_of_heap h1)).trans h1
      refine ⟨rfl, ⟨H.hS, ⟨chv, hbk, ownsRow_of_block (w := w.alloc (.cells D.toArray 34)) (h2.alloc _) fun k hk => ?_⟩, fun mb' hm' => ?_⟩, (World.grownBy_alloc w _ _).trans hg⟩
      · exact hg.block k ((h2.alloc _).lt k hk).2 fun e' => row_ne (h2.alloc _) hh (by decide) (by rw [hk]; exact e'.symm)
      · cases hm'
        exact ⟨(H.map mb rfl).1, ownsMap_of_block h4 (hg.block mb h4.lt fun e' => map_cells_ne h4 hh (by cases e'; rfl))⟩

/-- The first note. -/
theorem noteH {S h : Nat} {e : Int} {mk : Bool} {mo : Option Nat} {old lim : Int} {es : List Ent} {ms : Nat} {M : DataW Unit} {w : World} (H : Hst S h e mk mo old lim es ms M w) (hSw : S ≤ w.heap.size) {D : List Value} (hD : Dev D) (wl ct : Int) (hd : Bool)
    (hes : es.length ≤ 1000000) (hg : Goods es) (hms : ms < maxLen) (hl0 : 0 ≤ lim) (hl1 : lim ≤ 9223372036854775807) (hwe : (Lit.int .u64 (bump mk e)).wf = true) :
    Calls Try.prog 10 #[.pointer (some ⟨h, 0, none⟩), .agg D.toArray, .int .i64 wl, .int .u32 ct, .bool hd] w fun ex w' => ex = .returned (.tuple #[]) ∧ (∃ e' mk' old' es' ms' M', Hst S h e' mk' mo old' lim es' ms' M' w' ∧ Below S w w' ∧ Stable e' mk' mo M' D ∧ es'.length ≤ es.length + 1 ∧ Goods es') := by
  cases mo with
  | none =>
    refine (noteSame H hSw hD (.inl rfl) wl ct hd).mono ?_
    rintro ex w' ⟨rfl, h1, h2⟩
    exact ⟨rfl, e, mk, old, es, ms, M, h1, (Below.refl S w).grown h2 hSw (by rintro k hk; cases hk; exact H.hS), .inl rfl, by omega, hg⟩
  | some mb =>
    obtain ⟨chv, h1, h2⟩ := H.main
    have hb0 : ∀ k, k < w.heap.size → (w.alloc (.cells D.toArray 34)).heap[k]? = w.heap[k]? := fun k hk => Below.heap_alloc _ _ k hk
    have hh := (hb0 h (lt_of_heap h1)).trans h1
    have h4 := ((H.next hb0).map mb rfl).2
    refine zznote10 (Φ := fun _ w' => ∃ e' mk' old' es' ms' M', Hst S h e' mk' (some mb) old' lim es' ms' M' w' ∧ Below S w w' ∧ Stable e' mk' (some mb) M' D ∧ es'.length ≤ es.length + 1 ∧ Goods es') hD ?_
    by_cases hq : Maps.has M (kl D) = true ∧ M.atKey (kl D) (.lit (.int .u64 0)) = .lit (.int .u64 (bump mk e))
    · refine (note22_old h e mk chv mb old lim D _ _ hd _ ms M hh h4 hD hq.1 hq.2).mono ?_
      rintro ex w' ⟨rfl, hbk, hgr⟩
      refine ⟨rfl, bump mk e, false, old, es, ms, M, ⟨H.hS, ⟨chv, hbk, ownsRow_of_block (w := w.alloc (.cells D.toArray 34)) (h2.alloc _) fun k hk => ?_⟩, fun mb' hm' => ?_⟩, ((Below.refl S w).alloc hSw _).grown hgr (by simp; omega) (by rintro k hk; cases hk; exact H.hS), .inr ⟨rfl, hq.1, hq.2⟩, by omega, hg⟩
      · exact hgr.block k ((h2.alloc _).lt k hk).2 fun e' => row_ne (h2.alloc _) hh (by decide) (by rw [hk]; exact e'.symm)
      · cases hm'
        exact ⟨(H.map mb rfl).1, ownsMap_of_block h4 (hgr.block mb h4.lt fun e' => map_cells_ne h4 hh (by cases e'; rfl))⟩
    · refine (note22_new S h e mk chv mb old lim D wl ct hd _ ms M es hh h4 hms (h2.alloc _) (by simp; omega) hes hg hD hl0 hl1 hwe hq).mono ?_
      rintro ex w' ⟨rfl, N⟩
      have hSb : S ≤ mb := (H.map mb rfl).1
      have hrow : ∀ k, chv.ownBlock = some k → S ≤ k := fun k hk => (h2.lt k hk).1
      refine ⟨rfl, bump mk e, false, cutOld lim old (es ++ [⟨bump mk e, D, wl, ct, hd⟩]), cutEnts lim (es ++ [⟨bump mk e, D, wl, ct, hd⟩]), ms + 1, M.put (kl D) (.lit (.int .u64 (bump mk e))), ⟨H.hS, N.main, fun mb' hm' => ?_⟩, ?_, .inr ⟨rfl, ?_, ?_⟩, ?_, ?_⟩
      · cases hm'
        exact ⟨hSb, N.map⟩
      · refine ⟨N.os, N.tape, N.output, ?_, fun k hk => ?_⟩
        · have := N.size
          simp at this
          omega
        · have hmn : k ≠ mb := by omega
          have hkn : k ≠ h := by have := H.hS; omega
          exact (N.block k (by simp; omega) hkn hmn fun e' => by have := hrow k e'.symm; omega).trans (hb0 k (by omega))
      · exact has_put_same h4.isMap (law65.key hD.hkey) _
      · exact atKey_put_same h4.isMap (law65.key hD.hkey) _ _
      · unfold cutEnts
        split
        · simp
        · simp
      · unfold cutEnts
        split
        · exact (Goods.app hg hD).drop _
        · exact Goods.app hg hD
end Go.Proofs.Qxb6603893a
