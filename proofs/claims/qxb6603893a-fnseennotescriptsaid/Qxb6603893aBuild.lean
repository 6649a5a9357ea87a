/-
  'zzBuild': a history built of plain data.
-/
import Derived.Test.Qxb6603893aNew
namespace Go.Proofs.Qxb6603893a
open Go.RowKit Go.Maps
set_option linter.unusedVariables false

structure RD (w1 : World) (V : Nat) (vw : Array Value) (B0 B1 B2 B3 B4 n k : Nat) (es : List Ent) (wr : World) : Prop where
  below : Below w1.heap.size w1 wr
  vw : wr.heap[V]? = some (.cells vw 33 (0, 0))
  hV : w1.heap.size ≤ V
  h0 : w1.heap.size ≤ B0
  h1 : w1.heap.size ≤ B1
  h2 : w1.heap.size ≤ B2
  h3 : w1.heap.size ≤ B3
  h4 : w1.heap.size ≤ B4
  r0 : ∃ c, wr.heap[B0]? = some (.cells c 28 (0, 0)) ∧ c.size = n ∧ ∀ t x, t < k → es[t]? = some x → c[t]? = some (.int .u64 x.e)
  r1 : ∃ c, wr.heap[B1]? = some (.cells c 34 (0, 0)) ∧ c.size = n * 16 ∧ ∀ t x j, t < k → es[t]? = some x → j < 16 → c[t * 16 + j]? = x.D[j]?
  r2 : ∃ c, wr.heap[B2]? = some (.cells c 2 (0, 0)) ∧ c.size = n ∧ ∀ t x, t < k → es[t]? = some x → c[t]? = some (.int .i64 x.wl)
  r3 : ∃ c, wr.heap[B3]? = some (.cells c 35 (0, 0)) ∧ c.size = n ∧ ∀ t x, t < k → es[t]? = some x → c[t]? = some (.int .u32 x.ct)
  r4 : ∃ c, wr.heap[B4]? = some (.cells c 4 (0, 0)) ∧ c.size = n ∧ ∀ t x, t < k → es[t]? = some x → c[t]? = some (.bool x.hd)

section
variable {w1 : World} {V : Nat} {vw : Array Value} {B0 B1 B2 B3 B4 n k : Nat} {es : List Ent} {wr : World}
theorem RD.apart (R : RD w1 V vw B0 B1 B2 B3 B4 n k es wr) : Apart V B0 B1 B2 B3 B4 wr.heap.size := by
  obtain ⟨c0, q0, _⟩ := R.r0
  obtain ⟨c1, q1, _⟩ := R.r1
  obtain ⟨c2, q2, _⟩ := R.r2
  obtain ⟨c3, q3, _⟩ := R.r3
  obtain ⟨c4, q4, _⟩ := R.r4
  have l0 := lt_of_heap q0
  have l1 := lt_of_heap q1
  have l2 := lt_of_heap q2
  have l3 := lt_of_heap q3
  have l4 := lt_of_heap q4
  have lv := lt_of_heap R.vw
  exact ⟨heap_ne q0 R.vw (by decide), heap_ne q1 R.vw (by decide), heap_ne q2 R.vw (by decide), heap_ne q3 R.vw (by decide), heap_ne q4 R.vw (by decide), by omega, by omega, by omega, by omega, by omega,
    heap_ne q0 q1 (by decide), heap_ne q0 q2 (by decide), heap_ne q0 q3 (by decide), heap_ne q0 q4 (by decide), heap_ne q1 q2 (by decide), heap_ne q1 q3 (by decide), heap_ne q1 q4 (by decide), heap_ne q2 q3 (by decide), heap_ne q2 q4 (by decide), heap_ne q3 q4 (by decide), by omega⟩

/-- The box of one change. -/
theorem RD.box (R : RD w1 V vw B0 B1 B2 B3 B4 n k es wr) {x : Ent} (hx : Dev x.D) {w5 : World} {z : Array Value} (hz : z.size = 20) (h5 : w5 = (wr.alloc (.cells z 63)).setCells wr.heap.size 0 x.cells) :
    RD w1 V vw B0 B1 B2 B3 B4 n k es w5 ∧ w5.heap[wr.heap.size]? = some (.cells x.cells.toArray 63 (0, 0)) := by
  have hb : ∀ q, q < wr.heap.size → w5.heap[q]? = wr.heap[q]? := fun q hq => by
    rw [h5, heap_setCells_other _ _ (by omega), Below.heap_alloc _ _ _ hq]
  have hle := R.below.size
  refine ⟨⟨?_, (hb _ (lt_of_heap R.vw)).trans R.vw, R.hV, R.h0, R.h1, R.h2, R.h3, R.h4, ?_, ?_, ?_, ?_, ?_⟩, ?_⟩
  · rw [h5]
    exact below_setCells hle _ _ _ (R.below.alloc hle _)
  · obtain ⟨c, q, r⟩ := R.r0
    exact ⟨c, (hb _ (lt_of_heap q)).trans q, r⟩
  · obtain ⟨c, q, r⟩ := R.r1
    exact ⟨c, (hb _ (lt_of_heap q)).trans q, r⟩
  · obtain ⟨c, q, r⟩ := R.r2
    exact ⟨c, (hb _ (lt_of_heap q)).trans q, r⟩
  · obtain ⟨c, q, r⟩ := R.r3
    exact ⟨c, (hb _ (lt_of_heap q)).trans q, r⟩
  · obtain ⟨c, q, r⟩ := R.r4
    exact ⟨c, (hb _ (lt_of_heap q)).trans q, r⟩
  · rw [h5, heap_setCells_same _ 63 _ _ _ z (heap_alloc_new wr _), setAll_whole _ _ (by rw [hz, Ent.length hx])]

/-- The five stores of a round. -/
theorem RD.step (R : RD w1 V vw B0 B1 B2 B3 B4 n k es wr) {x : Ent} (hxk : es[k]? = some x) (hx : Dev x.D) (hk : k < n) (b : Nat) (A : Apart V B0 B1 B2 B3 B4 b) {w6 : World} (h6 : w6 = (wr.setCell ⟨B0, k, none⟩ (.int .u64 x.e)).setCells B1 (k * 16) x.D) :
    RD w1 V vw B0 B1 B2 B3 B4 n (k + 1) es (((w6.setCell ⟨B2, k, none⟩ (.int .i64 x.wl)).setCell ⟨B3, k, none⟩ (.int .u32 x.ct)).setCell ⟨B4, k, none⟩ (.bool x.hd)) := by
  have hoth : ∀ q, q ≠ B0 → q ≠ B1 → q ≠ B2 → q ≠ B3 → q ≠ B4 → (((w6.setCell ⟨B2, k, none⟩ (.int .i64 x.wl)).setCell ⟨B3, k, none⟩ (.int .u32 x.ct)).setCell ⟨B4, k, none⟩ (.bool x.hd)).heap[q]? = wr.heap[q]? := fun q q0 q1 q2 q3 q4 => by
    rw [heap_setCell_other _ _ _ _ q4, heap_setCell_other _ _ _ _ q3, heap_setCell_other _ _ _ _ q2, h6, heap_setCells_other _ _ q1, heap_setCell_other _ _ _ _ q0]
  refine ⟨?_, (hoth V A.v0.symm A.v1.symm A.v2.symm A.v3.symm A.v4.symm).trans R.vw, R.hV, R.h0, R.h1, R.h2, R.h3, R.h4, ?_, ?_, ?_, ?_, ?_⟩
  · rw [h6]
    exact (((below_setCells R.h1 _ _ _ (R.below.setCell (p := ⟨B0, k, none⟩) R.h0 _)).setCell (p := ⟨B2, k, none⟩) R.h2 _).setCell (p := ⟨B3, k, none⟩) R.h3 _).setCell (p := ⟨B4, k, none⟩) R.h4 _
  · obtain ⟨c, q, hs, r⟩ := R.r0
    obtain ⟨s1, s2⟩ := row_step (f := fun y => .int .u64 y.e) hs hk hxk r
    refine ⟨c.setIfInBounds k (.int .u64 x.e), ?_, s1, s2⟩
    rw [heap_setCell_other _ _ _ _ A.p04, heap_setCell_other _ _ _ _ A.p03, heap_setCell_other _ _ _ _ A.p02, h6, heap_setCells_other _ _ A.p01, heap_setCell_same wr B0 k c 28 _ q]
  · obtain ⟨c, q, hs, r⟩ := R.r1
    refine ⟨setAll c (k * 16) x.D, ?_, by rw [size_setAll]; exact hs, fun t y j ht hy hj => ?_⟩
    · rw [heap_setCell_other _ _ _ _ A.p14, heap_setCell_other _ _ _ _ A.p13, heap_setCell_other _ _ _ _ A.p12, h6]
      exact heap_setCells_same B1 34 _ _ _ c ((heap_setCell_other _ _ _ _ A.p01.symm).trans q)
    · have hl := hx.1
      by_cases e : t = k
      · subst e
        rw [hxk] at hy
        cases hy
        exact setAll_in _ _ _ _ (by omega) (by omega)
      · rw [setAll_out _ _ _ _ (by omega)]
        exact r t y j (by omega) hy hj
  · obtain ⟨c, q, hs, r⟩ := R.r2
    obtain ⟨s1, s2⟩ := row_step (f := fun y => .int .i64 y.wl) hs hk hxk r
    refine ⟨c.setIfInBounds k (.int .i64 x.wl), ?_, s1, s2⟩
    rw [heap_setCell_other _ _ _ _ A.p24, heap_setCell_other _ _ _ _ A.p23]
    refine heap_setCell_same w6 B2 k c 2 _ ?_
    rw [h6, heap_setCells_other _ _ A.p12.symm, heap_setCell_other _ _ _ _ A.p02.symm, q]
  · obtain ⟨c, q, hs, r⟩ := R.r3
    obtain ⟨s1, s2⟩ := row_step (f := fun y => .int .u32 y.ct) hs hk hxk r
    refine ⟨c.setIfInBounds k (.int .u32 x.ct), ?_, s1, s2⟩
    rw [heap_setCell_other _ _ _ _ A.p34]
    refine heap_setCell_same _ B3 k c 35 _ ?_
    rw [heap_setCell_other _ _ _ _ A.p23.symm, h6, heap_setCells_other _ _ A.p13.symm, heap_setCell_other _ _ _ _ A.p03.symm, q]
  · obtain ⟨c, q, hs, r⟩ := R.r4
    obtain ⟨s1, s2⟩ := row_step (f := fun y => .bool y.hd) hs hk hxk r
    refine ⟨c.setIfInBounds k (.bool x.hd), ?_, s1, s2⟩
    refine heap_setCell_same _ B4 k c 4 _ ?_
    rw [heap_setCell_other _ _ _ _ A.p34.symm, heap_setCell_other _ _ _ _ A.p24.symm, h6, heap_setCells_other _ _ A.p14.symm, heap_setCell_other _ _ _ _ A.p04.symm, q]
end

theorem RD.seen {w1 : World} {V : Nat} {vw : Array Value} {B0 B1 B2 B3 B4 : Nat} {es : List Ent} {wr : World} (R : RD w1 V vw B0 B1 B2 B3 B4 es.length es.length es wr) : SeenV w1.heap.size B0 B1 B2 B3 B4 es wr := by
  refine ⟨R.h0, R.h1, R.h2, R.h3, R.h4, ?_, ?_, ?_, ?_, ?_⟩
  · obtain ⟨c, q, s, f⟩ := R.r0
    exact ⟨c, q, s, fun t x hx => f t x (lt_idx hx) hx⟩
  · obtain ⟨c, q, s, f⟩ := R.r1
    exact ⟨c, q, s, fun t x j hx => f t x j (lt_idx hx) hx⟩
  · obtain ⟨c, q, s, f⟩ := R.r2
    exact ⟨c, q, s, fun t x hx => f t x (lt_idx hx) hx⟩
  · obtain ⟨c, q, s, f⟩ := R.r3
    exact ⟨c, q, s, fun t x hx => f t x (lt_idx hx) hx⟩
  · obtain ⟨c, q, s, f⟩ := R.r4
    exact ⟨c, q, s, fun t x hx => f t x (lt_idx hx) hx⟩

theorem ownsRow_base {w : World} {B B' e s : Nat} {v : Value} {n : Nat} {xs : List Value} (h : w.ownsRow B e s v n xs) (hB : B' ≤ B) : w.ownsRow B' e s v n xs := by
  refine ⟨h.1, ?_⟩
  rcases h.2 with hn | ⟨g, cap, cur, rfl, h1, h2⟩
  · exact .inl hn
  · exact .inr ⟨g, cap, cur, rfl, Nat.le_trans hB h1, h2⟩
/-- Changes in the caller's memory. -/
def EntsAt (w : World) (a : Option Addr) (es : List Ent) : Prop :=
  Goods es ∧ (es ≠ [] → ∃ b off, a = some ⟨b, off, none⟩ ∧ b < w.heap.size ∧ ∀ (k : Nat) (x : Ent), es[k]? = some x → w.rangeAt b (off + k * 20) x.cells)
theorem made_open {w : World} {B t sz b n : Nat} {xs : List Value} (h : w.ownsRow B t sz (.slice (some ⟨b, 0, none⟩) n n) n xs) : ∃ c, w.heap[b]? = some (.cells c t (0, 0)) ∧ c.size = n * sz := by
  rcases h.2 with ⟨h3, _⟩ | ⟨g, cap, cur, e, _, h5, _, _, h6, _⟩
  · cases h3
  · cases e
    exact ⟨cur, h5, h6⟩

set_option maxRecDepth 100000 in
set_option maxHeartbeats 4000000 in
theorem build9 (e : Int) (mk : Bool) (ca : Option Addr) (cc : Nat) (es : List Ent) (ln : Bool) (ka va : Option Addr) (kc vc : Nat) (ks : List (List Value)) (vs : List Int) (old lim : Int) (w : World)
    (hn : es.length ≤ 100000) (hes : EntsAt w ca es) (hks : DevsAt w ka ks) (hvs : IntsAt w .u64 va vs) (hkv : vs.length = ks.length) (hkn : ks.length ≤ 2000000) (hcc : es.length ≤ cc ∧ cc ≤ maxLen) :
    Calls Try.prog 9 #[.agg #[.int .u64 e, .bool mk, .slice ca es.length cc, .bool ln, .slice ka ks.length kc, .slice va vs.length vc, .int .u64 old, .int .i64 lim]] w fun ex w' => ∃ h, ex = .returned (.pointer (some ⟨h, 0, none⟩)) ∧ Built w.heap.size h e mk ln old lim ks.length es w' ∧ Below w.heap.size w w' := by
  obtain ⟨j0, hj0, ha0, hb0, hc0⟩ := info_parts i28
  obtain ⟨j1, hj1, ha1, hb1, hc1⟩ := info_parts i34
  obtain ⟨j2, hj2, ha2, hb2, hc2⟩ := info_parts i2
  obtain ⟨j3, hj3, ha3, hb3, hc3⟩ := info_parts i35
  obtain ⟨j4, hj4, ha4, hb4, hc4⟩ := info_parts i4
  have HE := hide hes
  have HK := hide hks
  have HV := hide hvs
  have HKV := hide hkv
  obtain ⟨hcc1, hcc2⟩ := hcc
  unfold maxLen at hcc2
  clear hes hks hvs
  go_enter Try.func9, Try.ntmps9
  go_wp2_with (first
    | (at_make; refine wpList_make_full _ rfl _ _ 31 rfl w.heap.size 28 j0 (.int .u64 0) 1 Try.underlying31 hj0 ha0 hb0 _ _ _ _ es.length rfl rfl rfl rfl (by rw [hc0]; omega) (by unfold maxLen; omega) (by first | omega | (simp; done) | (simp; omega)) ?_; intro w0 ho0 hg0; have hs0 : w.heap.size ≤ w0.heap.size := (by have := hg0.size; first | omega | (simp at this; omega)))
    | (at_make; refine wpList_make_full _ rfl _ _ 30 rfl w.heap.size 34 j1 z34 16 Try.underlying30 hj1 ha1 hb1 _ _ _ _ es.length rfl rfl rfl rfl (by rw [hc1]; omega) (by unfold maxLen; omega) (by first | omega | (simp; done) | (simp; omega)) ?_; intro w1 ho1 hg1; have hs1 : w.heap.size ≤ w1.heap.size := (by have := hg1.size; first | omega | (simp at this; omega)))
    | (at_make; refine wpList_make_full _ rfl _ _ 40 rfl w.heap.size 2 j2 (.int .i64 0) 1 Try.underlying40 hj2 ha2 hb2 _ _ _ _ es.length rfl rfl rfl rfl (by rw [hc2]; omega) (by unfold maxLen; omega) (by first | omega | (simp; done) | (simp; omega)) ?_; intro w2 ho2 hg2; have hs2 : w.heap.size ≤ w2.heap.size := (by have := hg2.size; first | omega | (simp at this; omega)))
    | (at_make; refine wpList_make_full _ rfl _ _ 41 rfl w.heap.size 35 j3 (.int .u32 0) 1 Try.underlying41 hj3 ha3 hb3 _ _ _ _ es.length rfl rfl rfl rfl (by rw [hc3]; omega) (by unfold maxLen; omega) (by first | omega | (simp; done) | (simp; omega)) ?_; intro w3 ho3 hg3; have hs3 : w.heap.size ≤ w3.heap.size := (by have := hg3.size; first | omega | (simp at this; omega)))
    | (at_make; refine wpList_make_full _ rfl _ _ 42 rfl w.heap.size 4 j4 (.bool false) 1 Try.underlying42 hj4 ha4 hb4 _ _ _ _ es.length rfl rfl rfl rfl (by rw [hc4]; omega) (by unfold maxLen; omega) (by first | omega | (simp; done) | (simp; omega)) ?_; intro w4 ho4 hg4; have hs4 : w.heap.size ≤ w4.heap.size := (by have := hg4.size; first | omega | (simp at this; omega))))
  have HR : Hid (RD w w.heap.size #[.int .u64 e, .bool mk, .slice ca es.length cc, .bool ln, .slice ka ks.length kc, .slice va ks.length vc, .int .u64 old, .int .i64 lim] (w.heap.size + 1) w0.heap.size w1.heap.size w2.heap.size w3.heap.size es.length 0 es w4) := by
    obtain ⟨c0, q0, z0⟩ := made_open ho0
    obtain ⟨c1, q1, z1⟩ := made_open ho1
    obtain ⟨c2, q2, z2⟩ := made_open ho2
    obtain ⟨c3, q3, z3⟩ := made_open ho3
    obtain ⟨c4, q4, z4⟩ := made_open ho4
    have b1 : ∀ q o, w0.heap[q]? = some o → w1.heap[q]? = some o := fun q o h => (hg1.block q (lt_of_heap h) (by simp)).trans h
    have b2 : ∀ q o, w1.heap[q]? = some o → w2.heap[q]? = some o := fun q o h => (hg2.block q (lt_of_heap h) (by simp)).trans h
    have b3 : ∀ q o, w2.heap[q]? = some o → w3.heap[q]? = some o := fun q o h => (hg3.block q (lt_of_heap h) (by simp)).trans h
    have b4 : ∀ q o, w3.heap[q]? = some o → w4.heap[q]? = some o := fun q o h => (hg4.block q (lt_of_heap h) (by simp)).trans h
    have hbx : w0.heap[w.heap.size]? = some (.cells #[.int .u64 e, .bool mk, .slice ca es.length cc, .bool ln, .slice ka ks.length kc, .slice va ks.length vc, .int .u64 old, .int .i64 lim] 33 (0, 0)) := (hg0.block w.heap.size (by simp) (by simp)).trans (heap_alloc_new w _)
    have hbel : Below w.heap.size w w4 := ((((((Below.refl w.heap.size w).alloc (Nat.le_refl _) _).grown hg0 (by simp) (by simp)).grown hg1 hs0 (by simp)).grown hg2 hs1 (by simp)).grown hg3 hs2 (by simp)).grown hg4 hs3 (by simp)
    exact ⟨hbel, b4 _ _ (b3 _ _ (b2 _ _ (b1 _ _ hbx))), Nat.le_refl _, by omega, hs0, hs1, hs2, hs3,
      ⟨c0, b4 _ _ (b3 _ _ (b2 _ _ (b1 _ _ (by simpa using q0)))), by omega, fun t x h => by omega⟩, ⟨c1, b4 _ _ (b3 _ _ (b2 _ _ q1)), z1, fun t x j h => by omega⟩,
      ⟨c2, b4 _ _ (b3 _ _ q2), by omega, fun t x h => by omega⟩, ⟨c3, b4 _ _ q3, by omega, fun t x h => by omega⟩, ⟨c4, q4, by omega, fun t x h => by omega⟩⟩
  generalize w0.heap.size = B1 at HR ⊢
  generalize w1.heap.size = B2 at HR ⊢
  generalize w2.heap.size = B3 at HR ⊢
  generalize w3.heap.size = B4 at HR ⊢
  obtain ⟨B0, hB0⟩ : ∃ B0, B0 = w.heap.size + 1 := ⟨_, rfl⟩
  rw [← hB0] at HR ⊢
  clear ho0 ho1 ho2 ho3 ho4 hg0 hg1 hg2 hg3 hg4 hs0 hs1 hs2 hs3 hs4 hB0
  go_loopw [9] (fun q wr => ∃ k : Nat, q = .int .i64 k ∧ k ≤ es.length ∧ Hid (RD w w.heap.size #[.int .u64 e, .bool mk, .slice ca es.length cc, .bool ln, .slice ka ks.length kc, .slice va ks.length vc, .int .u64 old, .int .i64 lim] B0 B1 B2 B3 B4 es.length k es wr)) (fun q _ => es.length - (intOf q).toNat)
  case atStart => exact ⟨0, rfl, Nat.zero_le _, HR⟩
  case round =>
    obtain ⟨k, rfl, hk, HC⟩ := hrel
    by_cases hkn' : k < es.length
    · obtain ⟨x, hxk⟩ : ∃ x, es[k]? = some x := ⟨_, List.getElem?_eq_getElem hkn'⟩
      have hDx : Dev x.D := HE.out.1 x (List.mem_of_getElem? hxk)
      obtain ⟨cb, coff, rfl, hcb, hcr⟩ := HE.out.2 (fun e => by rw [e] at hkn'; cases hkn')
      have HRG : Hid (wr.rangeAt cb (coff + k * 20) x.cells) := rangeAt_below (hcr k x hxk) (HC.out.below.block cb hcb)
      have cs2 : wr.cell? ⟨w.heap.size, 2, none⟩ = some (.slice (some ⟨cb, coff, none⟩) es.length cc) := hcell HC.out.vw 2 rfl
      have HKN := hide hkn'
      have A := HC.out.apart
      have a5 := A.b0
      have a6 := A.b2
      have a7 := A.b3
      have a8 := A.b4
      have a9 := A.p23
      have a10 := A.p24
      have a11 := A.p34
      have HA := hide A
      have HX := hide hxk
      have HD := hide hDx
      clear hxk hDx A hcr
      go_wp2_with (first
        | (show wpList _ _ _ (Oper.mk _ (Op.load 63 (.tmp 32)) _ _ _ _ :: _) _ _; refine wpList_load_mid rfl 63 (.tmp 32) rfl cb (coff + k * 20) rfl x.cells _ HRG.out Try.underlying63 rfl (by rw [Ent.length HD.out]; exact size63) ?_)
        | (show wpList _ _ _ (Oper.mk _ (Op.store 63 (.tmp 10) (.tmp 33)) _ _ _ _ :: _) _ _; refine wpList_store_all rfl 63 (.tmp 10) (.tmp 33) rfl wr.heap.size 0 x.cells.toArray rfl rfl (there_of_heap (heap_alloc_new wr _) (by simp [Ent.length HD.out])) (by simp only [List.size_toArray, Ent.length HD.out]; exact size63) (all_oneCell_toArray (Ent.oneCell HD.out)) ?_
           intro w5 hw5
           obtain ⟨R5, hb5⟩ := HC.out.box HD.out (z := _) rfl hw5
           have HR5 := hide R5
           have cb0 : w5.cell? ⟨wr.heap.size, 0, none⟩ = some (.int .u64 x.e) := hcell hb5 0 x.at0
           have l5 : ∃ y, w5.cell? ⟨B0, k, none⟩ = some y := by
             obtain ⟨c, q, s, _⟩ := R5.r0
             exact ⟨_, (cell_of_row w5 B0 k c 28 (0, 0) q).trans (Array.getElem?_eq_getElem (by have := HKN.out; omega))⟩
           obtain ⟨y0, cB0⟩ := l5
           have fB0 : w5.frozen? ⟨B0, k, none⟩ = false := by
             obtain ⟨c, q, s, _⟩ := R5.r0
             simp [World.frozen?, q]
           have H65 : Hid ((w5.setCell ⟨B0, k, none⟩ (.int .u64 x.e)).rangeAt wr.heap.size 1 x.D) := fun j v hv => by
             have hj : j < 16 := by rw [← HD.out.1]; exact (List.getElem?_eq_some_iff.1 hv).1
             rw [cell_of_row _ wr.heap.size (1 + j) x.cells.toArray 63 (0, 0) ((heap_setCell_other _ _ _ _ HA.out.b0.symm).trans hb5)]
             simp only [List.getElem?_toArray, Ent.cells]
             rw [Nat.add_comm, List.getElem?_cons_succ, List.getElem?_append_left (by have := HD.out.1; omega)]
             exact hv
           have T34 : Hid ((w5.setCell ⟨B0, k, none⟩ (.int .u64 x.e)).there B1 (k * 16) x.D.toArray.size) := by
             obtain ⟨c, q, s, _⟩ := R5.r1
             exact there_of_heap ((heap_setCell_other _ _ _ _ HA.out.p01.symm).trans q) (by have := HD.out.1; have := HKN.out; simp; omega)
           have HB5 := hide hb5
           clear R5 hb5 hw5 cs2)
        | (show wpList _ _ _ (Oper.mk _ (Op.load 34 (.tmp 41)) _ _ _ _ :: _) _ _; refine wpList_load_mid rfl 34 (.tmp 41) rfl wr.heap.size 1 rfl x.D _ (by assumption : Hid (World.rangeAt _ _ 1 _)).out Try.underlying34 rfl (by rw [HD.out.1]; exact size34) ?_)
        | (show wpList _ _ _ (Oper.mk _ (Op.store 34 (.tmp 43) (.tmp 42)) _ _ _ _ :: _) _ _; refine wpList_store_all rfl 34 (.tmp 43) (.tmp 42) rfl B1 (k * 16) x.D.toArray rfl rfl (by assumption : Hid (World.there _ _ _ _)).out (by simp only [List.size_toArray, HD.out.1]; exact size34) (all_oneCell_toArray HD.out.oneCell) ?_
           intro w6 hw6
           have H6 := HR5.out.step HX.out HD.out HKN.out wr.heap.size HA.out hw6
           have HRN := hide H6
           have o6 : ∀ q, q ≠ B0 → q ≠ B1 → w6.heap[q]? = w5.heap[q]? := fun q q0 q1 => by rw [hw6, heap_setCells_other _ _ q1, heap_setCell_other _ _ _ _ q0]
           have hb6 := (o6 wr.heap.size HA.out.b0.symm HA.out.b1.symm).trans HB5.out
           have cb17 := hcell hb6 17 (x.at17 HD.out)
           have cb18 := hcell hb6 18 (x.at18 HD.out)
           have cb19 := hcell hb6 19 (x.at19 HD.out)
           have l2 : ∃ y, w6.cell? ⟨B2, k, none⟩ = some y ∧ w6.frozen? ⟨B2, k, none⟩ = false := by
             obtain ⟨c, q, s, _⟩ := HR5.out.r2
             have q' := (o6 B2 HA.out.p02.symm HA.out.p12.symm).trans q
             exact ⟨_, (cell_of_row w6 B2 k c 2 (0, 0) q').trans (Array.getElem?_eq_getElem (by have := HKN.out; omega)), by simp [World.frozen?, q']⟩
           have l3 : ∃ y, w6.cell? ⟨B3, k, none⟩ = some y ∧ w6.frozen? ⟨B3, k, none⟩ = false := by
             obtain ⟨c, q, s, _⟩ := HR5.out.r3
             have q' := (o6 B3 HA.out.p03.symm HA.out.p13.symm).trans q
             exact ⟨_, (cell_of_row w6 B3 k c 35 (0, 0) q').trans (Array.getElem?_eq_getElem (by have := HKN.out; omega)), by simp [World.frozen?, q']⟩
           have l4 : ∃ y, w6.cell? ⟨B4, k, none⟩ = some y ∧ w6.frozen? ⟨B4, k, none⟩ = false := by
             obtain ⟨c, q, s, _⟩ := HR5.out.r4
             have q' := (o6 B4 HA.out.p04.symm HA.out.p14.symm).trans q
             exact ⟨_, (cell_of_row w6 B4 k c 4 (0, 0) q').trans (Array.getElem?_eq_getElem (by have := HKN.out; omega)), by simp [World.frozen?, q']⟩
           obtain ⟨y2, cB2, fB2⟩ := l2
           obtain ⟨y3, cB3, fB3⟩ := l3
           obtain ⟨y4, cB4, fB4⟩ := l4
           clear hw6 H6 o6 hb6 cb0 cB0 fB0))
      go_roundw
      case rel => first | exact ⟨k + 1, by go_num, by have := HKN.out; omega, HRN⟩ | (refine ⟨trivial, ?_⟩; (repeat apply Exists.intro); exact ⟨⟨k + 1, by go_num, by have := HKN.out; omega, HRN⟩, rfl⟩)
      case measure => have := HKN.out; simp [intOf]; omega
    · obtain rfl : k = es.length := by omega
      have cs0 : wr.cell? ⟨w.heap.size, 0, none⟩ = some (.int .u64 e) := hcell HC.out.vw 0 rfl
      have cs1 : wr.cell? ⟨w.heap.size, 1, none⟩ = some (.bool mk) := hcell HC.out.vw 1 rfl
      have cs3 : wr.cell? ⟨w.heap.size, 3, none⟩ = some (.bool ln) := hcell HC.out.vw 3 rfl
      have cs4 : wr.cell? ⟨w.heap.size, 4, none⟩ = some (.slice ka ks.length kc) := hcell HC.out.vw 4 rfl
      have cs5 : wr.cell? ⟨w.heap.size, 5, none⟩ = some (.slice va ks.length vc) := hcell HC.out.vw 5 rfl
      have cs6 : wr.cell? ⟨w.heap.size, 6, none⟩ = some (.int .u64 old) := hcell HC.out.vw 6 rfl
      have cs7 : wr.cell? ⟨w.heap.size, 7, none⟩ = some (.int .i64 lim) := hcell HC.out.vw 7 rfl
      have hks' : DevsAt wr ka ks := ⟨HK.out.1, fun h => by
        obtain ⟨b, o, h1, h2, h3⟩ := HK.out.2 h
        exact ⟨b, o, h1, Nat.lt_of_lt_of_le h2 HC.out.below.size, fun k D hD => rangeAt_below (h3 k D hD) (HC.out.below.block b h2)⟩⟩
      have hvs' : IntsAt wr .u64 va vs := ⟨HV.out.1, fun h => by
        obtain ⟨b, o, h1, h2, h3⟩ := HV.out.2 h
        exact ⟨b, o, h1, Nat.lt_of_lt_of_le h2 HC.out.below.size, fun k v hv => (HC.out.below.cell h2).trans (h3 k v hv)⟩⟩
      have hc15 := new15 e mk w.heap.size B0 B1 B2 B3 B4 es ln ka va kc vc ks vs old lim wr (by omega) HE.out.1 HC.out.seen hks' hvs' HKV.out hkn
      rw [HKV.out] at hc15
      clear hks' hvs'
      go_wp2_with fail
      refine hc15.mono ?_
      rintro e1 w7 ⟨h, rfl, hbu, hbe⟩
      go_wp2
      go_ret
      have hsz := HC.out.below.size
      obtain ⟨b1, chv, mo, b2, b3, b4⟩ := hbu
      exact ⟨h, rfl, ⟨Nat.le_trans hsz b1, chv, mo, b2, ownsRow_base b3 hsz, b4.imp id fun ⟨q1, mb, M, q2, q3, q4⟩ => ⟨q1, mb, M, q2, Nat.le_trans hsz q3, q4⟩⟩, HC.out.below.trans (hbe.mono hsz)⟩
end Go.Proofs.Qxb6603893a
