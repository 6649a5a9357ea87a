/-
  The loop of 'ZZSeenRead': what each round keeps.
-/
import Derived.Test.Qxb6603893aMint
namespace Go.Proofs.Qxb6603893a
open Go.RowKit Go.Maps
set_option linter.unusedVariables false

theorem wpMix_cast {P : Program} {md : Region.Mode} {ops : Array Oper} {C : World → Prop} {n f : Nat} {L : Array Bool → Act → World → Prop} {l1 l2 : Array Bool} {a : Act} {w : World} (h : l1 = l2) (hw : wpMix P md ops C n L f l2 a w) : wpMix P md ops C n L f l1 a w := h ▸ hw

/-- A row's cells, set one by one from a place on. -/
def setAll (c : Array Value) : Nat → List Value → Array Value
  | _, [] => c
  | o, v :: r => setAll (c.setIfInBounds o v) (o + 1) r
theorem size_setAll : ∀ (vs : List Value) (c : Array Value) (o : Nat), (setAll c o vs).size = c.size
  | [], _, _ => rfl
  | v :: r, c, o => by rw [setAll, size_setAll r]; simp
theorem setAll_out : ∀ (vs : List Value) (c : Array Value) (o i : Nat), (i < o ∨ o + vs.length ≤ i) → (setAll c o vs)[i]? = c[i]?
  | [], _, _, _, _ => rfl
  | v :: r, c, o, i, h => by
    rw [setAll, setAll_out r _ _ _ (by simp at h; omega), Array.getElem?_setIfInBounds_ne (by simp at h; omega)]
theorem setAll_in : ∀ (vs : List Value) (c : Array Value) (o j : Nat), j < vs.length → o + vs.length ≤ c.size → (setAll c o vs)[o + j]? = vs[j]?
  | v :: r, c, o, 0, _, hs => by
    rw [setAll, setAll_out r _ _ _ (by omega), Nat.add_zero]
    simp at hs
    simp [show o < c.size by omega]
  | v :: r, c, o, j + 1, hj, hs => by
    simp only [List.length_cons] at hj hs
    rw [setAll, show o + (j + 1) = o + 1 + j by omega, setAll_in r _ _ _ (by omega) (by simp; omega)]
    simp
theorem setAll_whole (vs : List Value) (c : Array Value) (h : c.size = vs.length) : setAll c 0 vs = vs.toArray := by
  apply Array.ext_getElem?
  intro i
  by_cases hi : i < vs.length
  · have := setAll_in vs c 0 i hi (by omega)
    rw [Nat.zero_add] at this
    rw [this]
    simp
  · rw [Array.getElem?_eq_none (by rw [size_setAll]; omega), Array.getElem?_eq_none (by simp; omega)]

theorem heap_setCells_same (b : Nat) (t : TypeId) : ∀ (vs : List Value) (o : Nat) (w : World) (c : Array Value), w.heap[b]? = some (.cells c t (0, 0)) → (w.setCells b o vs).heap[b]? = some (.cells (setAll c o vs) t (0, 0))
  | [], _, _, _, h => h
  | v :: r, o, w, c, h => by
    rw [World.setCells, setAll]
    exact heap_setCells_same b t r (o + 1) _ _ (heap_setCell_same w b o c t v h)
theorem heap_setCells_other (b k : Nat) (h : k ≠ b) : ∀ (vs : List Value) (o : Nat) (w : World), (w.setCells b o vs).heap[k]? = w.heap[k]?
  | [], _, _ => rfl
  | v :: r, o, w => by rw [World.setCells, heap_setCells_other b k h r, heap_setCell_other _ _ _ _ h]
theorem below_setCells {B b : Nat} {a : World} (hb : B ≤ b) : ∀ (vs : List Value) (o : Nat) (w : World), Below B a w → Below B a (w.setCells b o vs)
  | [], _, _, h => h
  | v :: r, o, w, h => below_setCells hb r (o + 1) _ (h.setCell (p := ⟨b, o, none⟩) hb v)
theorem there_of_heap {w : World} {b : Nat} {c : Array Value} {t : TypeId} (h : w.heap[b]? = some (.cells c t (0, 0))) {o m : Nat} (hm : o + m ≤ c.size) : w.there b o m := fun j hj =>
  ⟨by rw [cell_of_row w b (o + j) c t (0, 0) h, Array.getElem?_eq_getElem (by omega)]; rfl, by simp [World.frozen?, h]⟩

/-- 'store' of many cells, the world behind it under a name. -/
theorem wpList_store_all {P : Program} {ops : Array Oper} {rest : List Oper} {op : Oper} {a : Act} {w : World} {Q : Exit → Act → World → Prop} (hgd : op.guard = none) (ty : TypeId) (x y : Operand) (ho : op.op = .store ty x y)
    (b o : Nat) (cells : Array Value) (hx : a.eval x = .pointer (some ⟨b, o, none⟩)) (hy : a.eval y = .agg cells)
    (ht : w.there b o cells.size) (hi : (P.info? ty).map (·.size) = some cells.size) (h1 : cells.all (·.oneCell') = true)
    (h : ∀ w', w' = w.setCells b o cells.toList → wpList P ops Q rest (a.put op.dst undef) w') : wpList P ops Q (op :: rest) a w :=
  wpList_store_mid hgd ty x y ho b o cells hx hy ht hi h1 (h _ rfl)

structure RC (w1 : World) (V : Nat) (vw : Array Value) (B0 B1 B2 B3 B4 n k : Nat) (es : List Ent) (wr : World) : Prop where
  below : Below w1.heap.size w1 wr
  vw : wr.heap[V]? = some (.cells vw 44 (0, 0))
  hV : w1.heap.size ≤ V
  h0 : w1.heap.size ≤ B0
  h1 : w1.heap.size ≤ B1
  h2 : w1.heap.size ≤ B2
  h3 : w1.heap.size ≤ B3
  h4 : w1.heap.size ≤ B4
  r0 : ∃ c, wr.heap[B0]? = some (.cells c 28 (0, 0)) ∧ c.size = n ∧ ∀ t x, t < k → es[t]? = some x → c[t]? = some (.int .u64 x.e)
  r1 : ∃ c, wr.heap[B1]? = some (.cells c 34 (0, 0)) ∧ c.size = n * 16 ∧ ∀ t x j, t < k → es[t]? = some x → j < 16 → c[t * 16 + j]? = x.D[j]?
  r2 : ∃ c, wr.heap[B2]? = some (.cells c 2 (0, 0)) ∧ c.size = n ∧ ∀ t x, t < k → es[t]? = some x → c[t]? = some (.int .i64 x.wl)
  r3 : ∃ c, wr.heap[B3]? = some (.cells c 35 (0, 0)) ∧ c.size = n ∧ ∀ t x, t < k → es[t]? = some x → c[t]? = some (.int .u32 x.ct)
  r4 : ∃ c, wr.heap[B4]? = some (.cells c 4 (0, 0)) ∧ c.size = n ∧ ∀ t x, t < k → es[t]? = some x → c[t]? = some (.bool x.hd)

theorem heap_ne {w : World} {a b : Nat} {c d : Array Value} {t u : TypeId} {f g : Nat × Nat} (ha : w.heap[a]? = some (.cells c t f)) (hb : w.heap[b]? = some (.cells d u g)) (h : t ≠ u) : a ≠ b := fun e => by
  rw [e, hb] at ha
  cases ha
  exact h rfl

/-- One cell of a row of ones more is laid. -/
theorem row_step {es : List Ent} {f : Ent → Value} {c : Array Value} {n k : Nat} {x : Ent} (hs : c.size = n) (hk : k < n) (hx : es[k]? = some x) (h : ∀ t y, t < k → es[t]? = some y → c[t]? = some (f y)) :
    (c.setIfInBounds k (f x)).size = n ∧ ∀ t y, t < k + 1 → es[t]? = some y → (c.setIfInBounds k (f x))[t]? = some (f y) := by
  refine ⟨by simpa using hs, fun t y ht hy => ?_⟩
  by_cases e : t = k
  · subst e
    rw [hx] at hy
    cases hy
    simp [hs, hk]
  · rw [Array.getElem?_setIfInBounds_ne (by omega)]
    exact h t y (by omega) hy

section
variable {w1 : World} {V : Nat} {vw : Array Value} {B0 B1 B2 B3 B4 n k : Nat} {es : List Ent} {wr : World}
/-- The blocks are told apart by their elements' types. -/
structure Apart (V B0 B1 B2 B3 B4 b : Nat) : Prop where
  v0 : B0 ≠ V
  v1 : B1 ≠ V
  v2 : B2 ≠ V
  v3 : B3 ≠ V
  v4 : B4 ≠ V
  b0 : B0 ≠ b
  b1 : B1 ≠ b
  b2 : B2 ≠ b
  b3 : B3 ≠ b
  b4 : B4 ≠ b
  p01 : B0 ≠ B1
  p02 : B0 ≠ B2
  p03 : B0 ≠ B3
  p04 : B0 ≠ B4
  p12 : B1 ≠ B2
  p13 : B1 ≠ B3
  p14 : B1 ≠ B4
  p23 : B2 ≠ B3
  p24 : B2 ≠ B4
  p34 : B3 ≠ B4
  vb : V ≠ b
theorem RC.apart (R : RC w1 V vw B0 B1 B2 B3 B4 n k es wr) : Apart V B0 B1 B2 B3 B4 wr.heap.size := by
  obtain ⟨c0, q0, _⟩ := R.r0
  obtain ⟨c1, q1, _⟩ := R.r1
  obtain ⟨c2, q2, _⟩ := R.r2
  obtain ⟨c3, q3, _⟩ := R.r3
  obtain ⟨c4, q4, _⟩ := R.r4
  have l0 := lt_of_heap q0
  have l1 := lt_of_heap q1
  have l2 := lt_of_heap q2
  have l3 := lt_of_heap q3
  have l4 := lt_of_heap q4
  have lv := lt_of_heap R.vw
  exact ⟨heap_ne q0 R.vw (by decide), heap_ne q1 R.vw (by decide), heap_ne q2 R.vw (by decide), heap_ne q3 R.vw (by decide), heap_ne q4 R.vw (by decide), by omega, by omega, by omega, by omega, by omega,
    heap_ne q0 q1 (by decide), heap_ne q0 q2 (by decide), heap_ne q0 q3 (by decide), heap_ne q0 q4 (by decide), heap_ne q1 q2 (by decide), heap_ne q1 q3 (by decide), heap_ne q1 q4 (by decide), heap_ne q2 q3 (by decide), heap_ne q2 q4 (by decide), heap_ne q3 q4 (by decide), by omega⟩

/-- The box of one change. -/
theorem RC.box (R : RC w1 V vw B0 B1 B2 B3 B4 n k es wr) {x : Ent} (hx : Dev x.D) {w5 : World} {z : Array Value} (hz : z.size = 20) (h5 : w5 = (wr.alloc (.cells z 73)).setCells wr.heap.size 0 x.cells) :
    RC w1 V vw B0 B1 B2 B3 B4 n k es w5 ∧ w5.heap[wr.heap.size]? = some (.cells x.cells.toArray 73 (0, 0)) := by
  have hb : ∀ q, q < wr.heap.size → w5.heap[q]? = wr.heap[q]? := fun q hq => by
    rw [h5, heap_setCells_other _ _ (by omega), Below.heap_alloc _ _ _ hq]
  have hle := R.below.size
  refine ⟨⟨?_, (hb _ (lt_of_heap R.vw)).trans R.vw, R.hV, R.h0, R.h1, R.h2, R.h3, R.h4, ?_, ?_, ?_, ?_, ?_⟩, ?_⟩
  · rw [h5]
    exact below_setCells hle _ _ _ (R.below.alloc hle _)
  · obtain ⟨c, q, r⟩ := R.r0
    exact ⟨c, (hb _ (lt_of_heap q)).trans q, r⟩
  · obtain ⟨c, q, r⟩ := R.r1
    exact ⟨c, (hb _ (lt_of_heap q)).trans q, r⟩
  · obtain ⟨c, q, r⟩ := R.r2
    exact ⟨c, (hb _ (lt_of_heap q)).trans q, r⟩
  · obtain ⟨c, q, r⟩ := R.r3
    exact ⟨c, (hb _ (lt_of_heap q)).trans q, r⟩
  · obtain ⟨c, q, r⟩ := R.r4
    exact ⟨c, (hb _ (lt_of_heap q)).trans q, r⟩
  · rw [h5, heap_setCells_same _ 73 _ _ _ z (heap_alloc_new wr _), setAll_whole _ _ (by rw [hz, Ent.length hx])]

/-- The five stores of a round. -/
theorem RC.step (R : RC w1 V vw B0 B1 B2 B3 B4 n k es wr) {x : Ent} (hxk : es[k]? = some x) (hx : Dev x.D) (hk : k < n) (b : Nat) (A : Apart V B0 B1 B2 B3 B4 b) {w6 : World} (h6 : w6 = (wr.setCell ⟨B0, k, none⟩ (.int .u64 x.e)).setCells B1 (k * 16) x.D) :
    RC w1 V vw B0 B1 B2 B3 B4 n (k + 1) es (((w6.setCell ⟨B2, k, none⟩ (.int .i64 x.wl)).setCell ⟨B3, k, none⟩ (.int .u32 x.ct)).setCell ⟨B4, k, none⟩ (.bool x.hd)) := by
  have hoth : ∀ q, q ≠ B0 → q ≠ B1 → q ≠ B2 → q ≠ B3 → q ≠ B4 → (((w6.setCell ⟨B2, k, none⟩ (.int .i64 x.wl)).setCell ⟨B3, k, none⟩ (.int .u32 x.ct)).setCell ⟨B4, k, none⟩ (.bool x.hd)).heap[q]? = wr.heap[q]? := fun q q0 q1 q2 q3 q4 => by
    rw [heap_setCell_other _ _ _ _ q4, heap_setCell_other _ _ _ _ q3, heap_setCell_other _ _ _ _ q2, h6, heap_setCells_other _ _ q1, heap_setCell_other _ _ _ _ q0]
  refine ⟨?_, (hoth V A.v0.symm A.v1.symm A.v2.symm A.v3.symm A.v4.symm).trans R.vw, R.hV, R.h0, R.h1, R.h2, R.h3, R.h4, ?_, ?_, ?_, ?_, ?_⟩
  · rw [h6]
    exact (((below_setCells R.h1 _ _ _ (R.below.setCell (p := ⟨B0, k, none⟩) R.h0 _)).setCell (p := ⟨B2, k, none⟩) R.h2 _).setCell (p := ⟨B3, k, none⟩) R.h3 _).setCell (p := ⟨B4, k, none⟩) R.h4 _
  · obtain ⟨c, q, hs, r⟩ := R.r0
    obtain ⟨s1, s2⟩ := row_step (f := fun y => .int .u64 y.e) hs hk hxk r
    refine ⟨c.setIfInBounds k (.int .u64 x.e), ?_, s1, s2⟩
    rw [heap_setCell_other _ _ _ _ A.p04, heap_setCell_other _ _ _ _ A.p03, heap_setCell_other _ _ _ _ A.p02, h6, heap_setCells_other _ _ A.p01, heap_setCell_same wr B0 k c 28 _ q]
  · obtain ⟨c, q, hs, r⟩ := R.r1
    refine ⟨setAll c (k * 16) x.D, ?_, by rw [size_setAll]; exact hs, fun t y j ht hy hj => ?_⟩
    · rw [heap_setCell_other _ _ _ _ A.p14, heap_setCell_other _ _ _ _ A.p13, heap_setCell_other _ _ _ _ A.p12, h6]
      exact heap_setCells_same B1 34 _ _ _ c ((heap_setCell_other _ _ _ _ A.p01.symm).trans q)
    · have hl := hx.1
      by_cases e : t = k
      · subst e
        rw [hxk] at hy
        cases hy
        exact setAll_in _ _ _ _ (by omega) (by omega)
      · rw [setAll_out _ _ _ _ (by omega)]
        exact r t y j (by omega) hy hj
  · obtain ⟨c, q, hs, r⟩ := R.r2
    obtain ⟨s1, s2⟩ := row_step (f := fun y => .int .i64 y.wl) hs hk hxk r
    refine ⟨c.setIfInBounds k (.int .i64 x.wl), ?_, s1, s2⟩
    rw [heap_setCell_other _ _ _ _ A.p24, heap_setCell_other _ _ _ _ A.p23]
    refine heap_setCell_same w6 B2 k c 2 _ ?_
    rw [h6, heap_setCells_other _ _ A.p12.symm, heap_setCell_other _ _ _ _ A.p02.symm, q]
  · obtain ⟨c, q, hs, r⟩ := R.r3
    obtain ⟨s1, s2⟩ := row_step (f := fun y => .int .u32 y.ct) hs hk hxk r
    refine ⟨c.setIfInBounds k (.int .u32 x.ct), ?_, s1, s2⟩
    rw [heap_setCell_other _ _ _ _ A.p34]
    refine heap_setCell_same _ B3 k c 35 _ ?_
    rw [heap_setCell_other _ _ _ _ A.p23.symm, h6, heap_setCells_other _ _ A.p13.symm, heap_setCell_other _ _ _ _ A.p03.symm, q]
  · obtain ⟨c, q, hs, r⟩ := R.r4
    obtain ⟨s1, s2⟩ := row_step (f := fun y => .bool y.hd) hs hk hxk r
    refine ⟨c.setIfInBounds k (.bool x.hd), ?_, s1, s2⟩
    refine heap_setCell_same _ B4 k c 4 _ ?_
    rw [heap_setCell_other _ _ _ _ A.p34.symm, heap_setCell_other _ _ _ _ A.p24.symm, h6, heap_setCells_other _ _ A.p14.symm, heap_setCell_other _ _ _ _ A.p04.symm, q]
end
end Go.Proofs.Qxb6603893a
