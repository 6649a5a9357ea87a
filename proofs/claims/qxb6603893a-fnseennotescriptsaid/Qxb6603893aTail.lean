/-
  The script's law: the epochs' row, what stands in its loops.
-/
import Derived.Test.Qxb6603893aScriptNote
import Derived.Test.Qxb6603893aMixCall
import Derived.Test.Qxb6603893aSame2
import Derived.Test.Qxb6603893aScriptAux
import Derived.Test.Qxb6603893aBytes14
namespace Go.Proofs.Qxb6603893a
open Go.RowKit Go.Maps Script
set_option linter.unusedVariables false

/-- The row of epochs, laid up to i. -/
def EpAt (s : Sc) (E m i : Nat) (w : World) : Prop := ∃ c, w.heap[E]? = some (.cells c 28 (0, 0)) ∧ c.size = m ∧ ∀ (t : Nat), t < i → c[t]? = some (.int .u64 (ep s t : Nat))
theorem EpAt.tf {s : Sc} {E m i : Nat} {w w' : World} (h : EpAt s E m i w) (ht : TF w w') : EpAt s E m i w' := by
  obtain ⟨c, q, r⟩ := h
  exact ⟨c, ht _ _ _ _ q (by decide) (by decide), r⟩
theorem EpAt.step {s : Sc} {E m j : Nat} {w : World} (h : EpAt s E m j w) (hj : j < m) : EpAt s E m (j + 1) (w.setCell ⟨E, j, none⟩ (.int .u64 (ep s j : Nat))) := by
  obtain ⟨c, q, r, f⟩ := h
  refine ⟨_, heap_setCell_same w E j c 28 _ q, by simpa using r, fun t ht => ?_⟩
  by_cases e : t = j
  · subst e
    simp [r, hj]
  · rw [Array.getElem?_setIfInBounds_ne (by omega)]
    exact f t (by omega)
theorem EpAt.cell {s : Sc} {E m i : Nat} {w : World} (h : EpAt s E m i w) {t : Nat} (ht : t < m) : (∃ y, w.cell? ⟨E, t, none⟩ = some y) ∧ w.frozen? ⟨E, t, none⟩ = false := by
  obtain ⟨c, q, r, f⟩ := h
  exact ⟨⟨_, (cell_of_row w E t c 28 (0, 0) q).trans (Array.getElem?_eq_getElem (by omega))⟩, by simp [World.frozen?, q]⟩
theorem EpAt.val {s : Sc} {E m i : Nat} {w : World} (h : EpAt s E m i w) {t : Nat} (ht : t < i) : w.cell? ⟨E, t, none⟩ = some (.int .u64 (ep s t : Nat)) := by
  obtain ⟨c, q, r, f⟩ := h
  exact (cell_of_row w E t c 28 (0, 0) q).trans (f t ht)
theorem SJ.next {s : Sc} {l S h mb j : Nat} {mk : Bool} {w w' : World} (H : SJ s l S h mb j mk w) (hb : ∀ k, k < w.heap.size → w'.heap[k]? = w.heap[k]?) : SJ s l S h mb j mk w' := by
  obtain ⟨M, ms, h1, h2⟩ := H
  exact ⟨M, ms, h1.next hb, h2⟩
theorem SJ.setEp {s : Sc} {l S h mb j : Nat} {mk : Bool} {w : World} (H : SJ s l S h mb j mk w) {E i : Nat} {c : Array Value} (hE : w.heap[E]? = some (.cells c 28 (0, 0))) (v : Value) : SJ s l S h mb j mk (w.setCell ⟨E, i, none⟩ v) := by
  obtain ⟨M, ms, h1, h2⟩ := H
  obtain ⟨chv, q1, q2⟩ := h1.main
  have ho : ∀ k, k ≠ E → (w.setCell ⟨E, i, none⟩ v).heap[k]? = w.heap[k]? := fun k hk => heap_setCell_other _ _ _ _ hk
  refine ⟨M, ms, ⟨h1.hS, ⟨chv, (ho h (heap_ne q1 hE (by decide))).trans q1, ownsRow_of_block q2 fun k hk => ho k fun e' => row_ne q2 hE (by decide) (by rw [hk, e'])⟩, fun mb' hm => ?_⟩, h2⟩
  obtain ⟨h3, h4⟩ := h1.map mb' hm
  exact ⟨h3, ownsMap_of_block h4 (ho mb' fun e' => map_cells_ne h4 hE e'.symm)⟩

structure L5 (w : World) (s : Sc) (l h mb E m j i : Nat) (mk : Bool) (wr : World) : Prop where
  below : Below w.heap.size w wr
  sj : SJ s l w.heap.size h mb j mk wr
  ep : EpAt s E m i wr
  hE : w.heap.size ≤ E

/-- A row of ints turns, or new blocks come: the history and the epochs stay. -/
theorem L5.row3 {w : World} {s : Sc} {l h mb E m j i : Nat} {mk : Bool} {wr w' : World} (H : L5 w s l h mb E m j i mk wr) {r : Option Nat} (hg : wr.grownBy w' r) (hr : ∀ k, r = some k → w.heap.size ≤ k ∧ ∃ c, wr.heap[k]? = some (.cells c 3 (0, 0))) : L5 w s l h mb E m j i mk w' := by
  have hb : ∀ {k : Nat} {c : Array Value} {t : TypeId}, wr.heap[k]? = some (.cells c t (0, 0)) → t ≠ 3 → w'.heap[k]? = wr.heap[k]? := fun {k c t} hk ht => hg.block k (lt_of_heap hk) fun e => by
    obtain ⟨_, d, hd⟩ := hr k e.symm
    exact heap_ne hk hd ht rfl
  obtain ⟨M, ms, h1, h2, h3⟩ := H.sj
  obtain ⟨chv, q1, q2⟩ := h1.main
  refine ⟨H.below.grown hg H.below.size (fun k hk => (hr k hk).1), ⟨M, ms, ⟨h1.hS, ⟨chv, (hb q1 (by decide)).trans q1, ownsRow_of_block q2 fun k hk => ?_⟩, fun mb' hm => ?_⟩, h2, h3⟩, ?_, H.hE⟩
  · obtain ⟨c, hc⟩ := row_block q2 hk
    exact hb hc (by decide)
  · obtain ⟨p1, p2⟩ := h1.map mb' hm
    refine ⟨p1, ownsMap_of_block p2 (hg.block mb' p2.lt fun e => ?_)⟩
    obtain ⟨_, d, hd⟩ := hr mb' e.symm
    exact map_cells_ne p2 hd rfl
  · obtain ⟨c, q, f⟩ := H.ep
    exact ⟨c, (hb q (by decide)).trans q, f⟩
theorem L5.drewN {w : World} {s : Sc} {l h mb E m j i : Nat} {mk : Bool} {wr : World} (H : L5 w s l h mb E m j i mk wr) (n : Nat) : L5 w s l h mb E m j i mk (wr.drewN n) := H.row3 (r := none) ⟨rfl, rfl, rfl, Nat.le_refl _, fun _ _ _ => rfl⟩ (fun k hk => by cases hk)
theorem own_row3 {w : World} {B : Nat} {v : Value} {n : Nat} {xs : List Value} (h : w.ownsRow B 3 1 v n xs) {S : Nat} (hS : S ≤ B) : ∀ k, v.ownBlock = some k → S ≤ k ∧ ∃ c, w.heap[k]? = some (.cells c 3 (0, 0)) := fun k hk => ⟨Nat.le_trans hS (h.lt k hk).1, row_block h hk⟩
def ints3 (l : List Nat) : List Value := (l.map (fun k : Nat => (k : Int))).map (Value.int .i64)

theorem info3 : (Try.prog.info? 3).map (fun i => (i.zero, i.size, i.bytes)) = some (some (.int .i64 0), 1, 8) := by kernel_rfl

/-! ### Behind the read-back -/
theorem row3_at {w : World} {B : Nat} {ao : Option Addr} {fl oc n : Nat} {f : List Nat} (h : w.ownsRow B 3 1 (.slice ao fl oc) n (ints3 f)) {t : Nat} (ht : t < f.length) :
    ∃ g, ao = some ⟨g, 0, none⟩ ∧ w.cell? ⟨g, t, none⟩ = some (.int .i64 ((f.getD t 0 : Nat) : Int)) := by
  have hu : (ints3 f)[t]? = some (.int .i64 ((f.getD t 0 : Nat) : Int)) := by
    simp [ints3, List.getElem?_eq_getElem ht, List.getD_eq_getElem?_getD]
  rcases h.2 with ⟨e1, e2⟩ | ⟨g, cap, cur, e1, _⟩
  · have := h.1
    simp [ints3, e2] at this
    rw [this] at ht
    cases ht
  · cases e1
    refine ⟨g, rfl, ?_⟩
    have := h.cells (g := g) rfl t _ hu
    rw [Addr.add_lit, Nat.zero_add] at this
    exact this

/-- A view is boxed. -/
theorem boxedV {w4 w5 : World} {z vw : Array Value} (hz : z.size = vw.size) (h5 : w5 = (w4.alloc (.cells z 44)).setCells w4.heap.size 0 vw.toList) : Below w4.heap.size w4 w5 ∧ w5.heap[w4.heap.size]? = some (.cells vw 44 (0, 0)) := by
  rw [h5]
  refine ⟨below_setCells (Nat.le_refl _) _ _ _ ((Below.refl _ _).alloc (Nat.le_refl _) _), ?_⟩
  rw [heap_setCells_same _ 44 _ _ _ z (heap_alloc_new w4 _), setAll_whole _ _ (by simpa using hz)]
theorem thereV {w4 : World} (e : Int) (mk : Bool) (B0 B1 B2 B3 B4 n : Nat) (ln : Bool) (ll old lim : Int) : (w4.alloc (.cells c44 44)).there w4.heap.size 0 (view e mk B0 B1 B2 B3 B4 n ln ll old lim).size := there_of_heap (heap_alloc_new w4 _) (by simp [view, c44])

theorem lasts_le (s : Sc) (n : Nat) : ∀ j, lasts s n j ≤ j
  | 0 => Nat.le_refl _
  | j + 1 => by
    have := lasts_le s n j
    simp only [lasts]
    cases ind s n j <;> simp <;> omega

/-- What stands behind the read-back. -/
structure T5 (w : World) (s : Sc) (l h mb E m : Nat) (mk : Bool) (ms : Nat) (M : DataW Unit) (fv : Value) (S B0 B1 B2 B3 B4 : Nat) (wr : World) : Prop where
  below : Below w.heap.size w wr
  hst : Hst w.heap.size h (ec s m : Nat) mk (some mb) (oldest s l m) (l : Int) (kept s l m) ms M wr
  ep : EpAt s E m m wr
  row : wr.ownsRow w.heap.size 3 1 fv (F s m).length (ints3 (F s m))
  seen : SeenV S B0 B1 B2 B3 B4 (kept s l m) wr
theorem T5.next {w : World} {s : Sc} {l h mb E m : Nat} {mk : Bool} {ms : Nat} {M : DataW Unit} {fv : Value} {S B0 B1 B2 B3 B4 : Nat} {wr w' : World} (H : T5 w s l h mb E m mk ms M fv S B0 B1 B2 B3 B4 wr) (hb : Below wr.heap.size wr w') : T5 w s l h mb E m mk ms M fv S B0 B1 B2 B3 B4 w' :=
  ⟨H.below.trans (hb.mono H.below.size), H.hst.next hb.block, H.ep.tf (TF.of_below hb), ownsRow_of_block H.row fun k hk => hb.block k (H.row.lt k hk).2, H.seen.of_blocks fun k hk _ => hb.block k hk⟩
end Go.Proofs.Qxb6603893a
