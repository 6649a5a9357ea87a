import Derived.Test.Qxb6603893aHist
import Derived.Test.Qxb6603893aBytes
namespace Go.Proofs.Qxb6603893a
open Go.RowKit Go.Maps
set_option linter.unusedVariables false

/-- The law's own boxes. -/
structure Bx (w : World) (s8 : Array Value) (D : List Value) (wr : World) : Prop where
  below : Below w.heap.size w wr
  b8 : wr.heap[w.heap.size]? = some (.cells s8 33 (0, 0))
  b9 : wr.heap[w.heap.size + 1]? = some (.cells D.toArray 34 (0, 0))
theorem Bx.start (w : World) (s8 : Array Value) (D : List Value) : Bx w s8 D ((w.alloc (.cells s8 33)).alloc (.cells D.toArray 34)) := by
  refine ⟨((Below.refl _ _).alloc (Nat.le_refl _) _).alloc (by simp) _, ?_, ?_⟩
  · rw [Below.heap_alloc _ _ _ (by simp)]
    exact heap_alloc_new w _
  · have := heap_alloc_new (w.alloc (.cells s8 33)) (.cells D.toArray 34)
    simpa using this
theorem Bx.size {w : World} {s8 : Array Value} {D : List Value} {wr : World} (h : Bx w s8 D wr) : w.heap.size + 2 ≤ wr.heap.size := lt_of_heap h.b9
theorem Bx.next {w : World} {s8 : Array Value} {D : List Value} {wr w' : World} (h : Bx w s8 D wr) {S : Nat} (hS : w.heap.size + 2 ≤ S) (hb : Below S wr w') : Bx w s8 D w' :=
  ⟨h.below.trans (hb.mono (by omega)), (hb.block _ (by omega)).trans h.b8, (hb.block _ (by omega)).trans h.b9⟩
theorem Bx.load {w : World} {s8 : Array Value} {D : List Value} {wr : World} (h : Bx w s8 D wr) : wr.rangeAt (w.heap.size + 1) 0 D := rangeAt_block h.b9

/-- What stands behind the first read. -/
structure LL (w : World) (s8 : Array Value) (D : List Value) (S h : Nat) (e : Int) (mk : Bool) (mo : Option Nat) (old lim : Int) (es : List Ent) (ms : Nat) (M : DataW Unit) (bv : Nat) (vw : Array Value) (B0 B1 B2 B3 B4 : Nat) (wr : World) : Prop where
  bx : Bx w s8 D wr
  hst : Hst S h e mk mo old lim es ms M wr
  vw : wr.heap[bv]? = some (.cells vw 44 (0, 0))
  seen : SeenV S B0 B1 B2 B3 B4 es wr
  hw : w.heap.size + 2 ≤ S
  hS : S ≤ wr.heap.size
section
variable {w : World} {s8 : Array Value} {D : List Value} {S h : Nat} {e : Int} {mk : Bool} {mo : Option Nat} {old lim : Int} {es : List Ent} {ms : Nat} {M : DataW Unit} {bv : Nat} {vw : Array Value} {B0 B1 B2 B3 B4 : Nat} {wr w' : World}
theorem LL.next (H : LL w s8 D S h e mk mo old lim es ms M bv vw B0 B1 B2 B3 B4 wr) (hb : Below wr.heap.size wr w') : LL w s8 D S h e mk mo old lim es ms M bv vw B0 B1 B2 B3 B4 w' :=
  ⟨H.bx.next H.bx.size hb, H.hst.next hb.block, (hb.block _ (lt_of_heap H.vw)).trans H.vw, H.seen.of_blocks fun k hk _ => hb.block k hk, H.hw, Nat.le_trans H.hS hb.size⟩
theorem LL.noted (H : LL w s8 D S h e mk mo old lim es ms M bv vw B0 B1 B2 B3 B4 wr) (H' : Hst S h e mk mo old lim es ms M w') (hg : wr.grownBy w' (some h)) : LL w s8 D S h e mk mo old lim es ms M bv vw B0 B1 B2 B3 B4 w' := by
  obtain ⟨chv, h1, _⟩ := H.hst.main
  have hb : ∀ {k : Nat} {c : Array Value} {t : TypeId}, wr.heap[k]? = some (.cells c t (0, 0)) → t ≠ 71 → w'.heap[k]? = some (.cells c t (0, 0)) := fun {k c t} hk ht => (hg.block k (lt_of_heap hk) (by simpa using heap_ne hk h1 ht)).trans hk
  have hSh := H.hst.hS
  have hw := H.hw
  have hS := H.hS
  have hsz := hg.size
  refine ⟨⟨H.bx.below.grown hg (by omega) (by rintro k hk; cases hk; omega), hb H.bx.b8 (by decide), hb H.bx.b9 (by decide)⟩, H', hb H.vw (by decide), ⟨H.seen.h0, H.seen.h1, H.seen.h2, H.seen.h3, H.seen.h4, ?_, ?_, ?_, ?_, ?_⟩, hw, by omega⟩
  · obtain ⟨c, q, r⟩ := H.seen.r0
    exact ⟨c, hb q (by decide), r⟩
  · obtain ⟨c, q, r⟩ := H.seen.r1
    exact ⟨c, hb q (by decide), r⟩
  · obtain ⟨c, q, r⟩ := H.seen.r2
    exact ⟨c, hb q (by decide), r⟩
  · obtain ⟨c, q, r⟩ := H.seen.r3
    exact ⟨c, hb q (by decide), r⟩
  · obtain ⟨c, q, r⟩ := H.seen.r4
    exact ⟨c, hb q (by decide), r⟩
end

theorem SeenV.base {S S' B0 B1 B2 B3 B4 : Nat} {es : List Ent} {w : World} (h : SeenV S B0 B1 B2 B3 B4 es w) (hS : S' ≤ S) : SeenV S' B0 B1 B2 B3 B4 es w :=
  ⟨Nat.le_trans hS h.h0, Nat.le_trans hS h.h1, Nat.le_trans hS h.h2, Nat.le_trans hS h.h3, Nat.le_trans hS h.h4, h.r0, h.r1, h.r2, h.r3, h.r4⟩
/-- A view is boxed. -/
theorem boxed {w4 w5 : World} {z vw : Array Value} (hz : z.size = vw.size) (h5 : w5 = (w4.alloc (.cells z 44)).setCells w4.heap.size 0 vw.toList) : Below w4.heap.size w4 w5 ∧ w5.heap[w4.heap.size]? = some (.cells vw 44 (0, 0)) := by
  rw [h5]
  refine ⟨below_setCells (Nat.le_refl _) _ _ _ ((Below.refl _ _).alloc (Nat.le_refl _) _), ?_⟩
  rw [heap_setCells_same _ 44 _ _ _ z (heap_alloc_new w4 _), setAll_whole _ _ (by simpa using hz)]
theorem there44 {w4 : World} (e : Int) (mk : Bool) (B0 B1 B2 B3 B4 n : Nat) (ln : Bool) (ll old lim : Int) : (w4.alloc (.cells c44 44)).there w4.heap.size 0 (view e mk B0 B1 B2 B3 B4 n ln ll old lim).size := there_of_heap (heap_alloc_new w4 _) (by simp [view, c44])

/-- The two rows of answers. -/
structure RW (mo : Option Nat) (M : DataW Unit) (ks : List (List Value)) (A O j : Nat) (wr : World) : Prop where
  a : ∃ c, wr.heap[A]? = some (.cells c 28 (0, 0)) ∧ c.size = ks.length ∧ ∀ (t : Nat), t < j → c[t]? = some (.int .u64 (mval mo M (ks.getD t [])))
  o : ∃ c, wr.heap[O]? = some (.cells c 4 (0, 0)) ∧ c.size = ks.length ∧ ∀ (t : Nat), t < j → c[t]? = some (.bool (mhas mo M (ks.getD t [])))
section
variable {mo : Option Nat} {M : DataW Unit} {ks : List (List Value)} {A O j : Nat} {wr w' : World}
theorem RW.next (H : RW mo M ks A O j wr) (hb : ∀ k, k < wr.heap.size → w'.heap[k]? = wr.heap[k]?) : RW mo M ks A O j w' := by
  obtain ⟨c, q, r⟩ := H.a
  obtain ⟨d, p, s⟩ := H.o
  exact ⟨⟨c, (hb _ (lt_of_heap q)).trans q, r⟩, ⟨d, (hb _ (lt_of_heap p)).trans p, s⟩⟩
theorem RW.noted {h : Nat} {x : Array Value} (H : RW mo M ks A O j wr) (hh : wr.heap[h]? = some (.cells x 71 (0, 0))) (hg : wr.grownBy w' (some h)) : RW mo M ks A O j w' := by
  obtain ⟨c, q, r⟩ := H.a
  obtain ⟨d, p, s⟩ := H.o
  exact ⟨⟨c, (hg.block _ (lt_of_heap q) (by simpa using heap_ne q hh (by decide))).trans q, r⟩, ⟨d, (hg.block _ (lt_of_heap p) (by simpa using heap_ne p hh (by decide))).trans p, s⟩⟩
theorem RW.ne (H : RW mo M ks A O j wr) : A ≠ O := by
  obtain ⟨c, q, r⟩ := H.a
  obtain ⟨d, p, s⟩ := H.o
  exact heap_ne q p (by decide)
theorem RW.step (H : RW mo M ks A O j wr) (hj : j < ks.length) : RW mo M ks A O (j + 1) ((wr.setCell ⟨A, j, none⟩ (.int .u64 (mval mo M (ks.getD j [])))).setCell ⟨O, j, none⟩ (.bool (mhas mo M (ks.getD j [])))) := by
  have hne := H.ne
  obtain ⟨c, q, s, r⟩ := H.a
  obtain ⟨d, p, u, f⟩ := H.o
  refine ⟨⟨c.setIfInBounds j (.int .u64 (mval mo M (ks.getD j []))), ?_, by simpa using s, fun t ht => ?_⟩, ⟨d.setIfInBounds j (.bool (mhas mo M (ks.getD j []))), ?_, by simpa using u, fun t ht => ?_⟩⟩
  · rw [heap_setCell_other _ _ _ _ hne]
    exact heap_setCell_same _ A j c 28 _ q
  · by_cases e : t = j
    · subst e
      simp [s, hj]
    · rw [Array.getElem?_setIfInBounds_ne (by omega)]
      exact r t (by omega)
  · exact heap_setCell_same _ O j d 4 _ ((heap_setCell_other _ _ _ _ hne.symm).trans p)
  · by_cases e : t = j
    · subst e
      simp [u, hj]
    · rw [Array.getElem?_setIfInBounds_ne (by omega)]
      exact f t (by omega)
theorem RW.cells (H : RW mo M ks A O j wr) {t : Nat} (ht : t < ks.length) : (∃ y, wr.cell? ⟨A, t, none⟩ = some y) ∧ wr.frozen? ⟨A, t, none⟩ = false ∧ (∃ y, wr.cell? ⟨O, t, none⟩ = some y) ∧ wr.frozen? ⟨O, t, none⟩ = false := by
  obtain ⟨c, q, s, r⟩ := H.a
  obtain ⟨d, p, u, f⟩ := H.o
  exact ⟨⟨_, (cell_of_row wr A t c 28 (0, 0) q).trans (Array.getElem?_eq_getElem (by omega))⟩, by simp [World.frozen?, q], ⟨_, (cell_of_row wr O t d 4 (0, 0) p).trans (Array.getElem?_eq_getElem (by omega))⟩, by simp [World.frozen?, p]⟩
theorem RW.vals (H : RW mo M ks A O j wr) {t : Nat} (ht : t < j) : wr.cell? ⟨A, t, none⟩ = some (.int .u64 (mval mo M (ks.getD t []))) ∧ wr.cell? ⟨O, t, none⟩ = some (.bool (mhas mo M (ks.getD t []))) := by
  obtain ⟨c, q, s, r⟩ := H.a
  obtain ⟨d, p, u, f⟩ := H.o
  exact ⟨(cell_of_row wr A t c 28 (0, 0) q).trans (r t ht), (cell_of_row wr O t d 4 (0, 0) p).trans (f t ht)⟩
end

set_option maxRecDepth 100000 in
set_option maxHeartbeats 2000000 in
theorem law4 (e : Int) (mk : Bool) (ca : Option Addr) (cc : Nat) (es : List Ent) (ln : Bool) (ka va : Option Addr) (kc vc : Nat) (ks : List (List Value)) (vs : List Int) (old lim : Int) (D : List Value) (wl1 ct1 : Int) (hd1 : Bool) (wl2 ct2 : Int) (hd2 : Bool) (w : World)
    (hes : EntsAt w ca es) (hks : DevsAt w ka ks) (hvs : IntsAt w .u64 va vs) (hcc : es.length ≤ cc ∧ cc ≤ maxLen) (hkn : ks.length ≤ maxLen) (hvn : vs.length ≤ maxLen) (hD : Dev D) (hwe : ∀ b, (Lit.int .u64 (bump b e)).wf = true) (hl0 : -9223372036854775808 ≤ lim) (hl1 : lim ≤ 9223372036854775807) :
    Calls Try.prog 4 #[.agg #[.int .u64 e, .bool mk, .slice ca es.length cc, .bool ln, .slice ka ks.length kc, .slice va vs.length vc, .int .u64 old, .int .i64 lim], .agg D.toArray, .int .i64 wl1, .int .u32 ct1, .bool hd1, .int .i64 wl2, .int .u32 ct2, .bool hd2] w fun ex w' => ex = .returned (.bool true) ∧ Below w.heap.size w w' := by
  have HE := hide hes
  have HK := hide hks
  have HV := hide hvs
  have HX0 := hide (Bx.start w #[.int .u64 e, .bool mk, .slice ca es.length cc, .bool ln, .slice ka ks.length kc, .slice va vs.length vc, .int .u64 old, .int .i64 lim] D)
  have HD := hide hD
  have HW := hide hwe
  have HCC := hide hcc
  have hb8 := bytes8 e mk ca es.length cc ln ka va ks.length kc vs.length vc old lim D wl1 ct1 wl2 ct2 hd1 hd2
  clear hes hks hvs hwe hD
  have HS34 : Hid ((Try.prog.info? 34).map (·.size) = some D.length) := by rw [HD.out.1]; exact size34
  obtain ⟨hcc1, hcc2⟩ := hcc
  unfold maxLen at hcc2 hkn hvn
  go_enter Try.func4, Try.ntmps4
  go_wp2_with (show wpList _ _ _ (Oper.mk _ (Op.load 34 (.tmp 9)) _ _ _ _ :: _) _ _; refine wpList_load_mid rfl 34 (.tmp 9) rfl (w.heap.size + 1) 0 rfl D _ HX0.out.load Try.underlying34 rfl HS34.out ?_)
  refine (hb8 _ (by unfold maxLen; omega) (by unfold maxLen; omega) (by unfold maxLen; omega)).mono ?_
  rintro ex w1 ⟨hex, hb⟩
  have HX1 := hide (HX0.out.next (S := w.heap.size + 2) (Nat.le_refl _) (hb.mono (by simp)))
  clear hb HX0 hb8
  rcases hex with rfl | rfl
  rotate_left
  · go_wp2
    go_ret
    exact ⟨rfl, HX1.out.below⟩
  have c0 : w1.cell? ⟨w.heap.size, 0, none⟩ = some (.int .u64 e) := hcell HX1.out.b8 0 rfl
  have c1 : w1.cell? ⟨w.heap.size, 1, none⟩ = some (.bool mk) := hcell HX1.out.b8 1 rfl
  have c2 : w1.cell? ⟨w.heap.size, 2, none⟩ = some (.slice ca es.length cc) := hcell HX1.out.b8 2 rfl
  have c3 : w1.cell? ⟨w.heap.size, 3, none⟩ = some (.bool ln) := hcell HX1.out.b8 3 rfl
  have c4 : w1.cell? ⟨w.heap.size, 4, none⟩ = some (.slice ka ks.length kc) := hcell HX1.out.b8 4 rfl
  have c5 : w1.cell? ⟨w.heap.size, 5, none⟩ = some (.slice va vs.length vc) := hcell HX1.out.b8 5 rfl
  have c6 : w1.cell? ⟨w.heap.size, 6, none⟩ = some (.int .u64 old) := hcell HX1.out.b8 6 rfl
  have c7 : w1.cell? ⟨w.heap.size, 7, none⟩ = some (.int .i64 lim) := hcell HX1.out.b8 7 rfl
  by_cases g1 : 65536 < es.length
  · go_wp2
    go_ret
    exact ⟨rfl, HX1.out.below⟩
  by_cases g2 : 65536 < ks.length
  · go_wp2
    go_ret
    exact ⟨rfl, HX1.out.below⟩
  by_cases g3 : 65536 < vs.length
  · go_wp2
    go_ret
    exact ⟨rfl, HX1.out.below⟩
  by_cases g4 : 1048576 < (es.length : Int) * 40 + (ks.length : Int) * 16 + (vs.length : Int) * 8
  · go_wp2
    go_ret
    exact ⟨rfl, HX1.out.below⟩
  by_cases g5 : ks.length = vs.length
  rotate_left
  · go_wp2
    go_ret
    exact ⟨rfl, HX1.out.below⟩
  by_cases g6 : lim < 0
  · go_wp2
    go_ret
    exact ⟨rfl, HX1.out.below⟩
  go_wp2_with fail
  have hg0 := HX1.out.below
  have hsz1 := HX1.out.size
  have hes1 : EntsAt w1 ca es := ⟨HE.out.1, fun h => by
    obtain ⟨b, o, h1, h2, h3⟩ := HE.out.2 h
    exact ⟨b, o, h1, Nat.lt_of_lt_of_le h2 hg0.size, fun k x hx => rangeAt_below (h3 k x hx) (hg0.block b h2)⟩⟩
  have hks1 : DevsAt w1 ka ks := ⟨HK.out.1, fun h => by
    obtain ⟨b, o, h1, h2, h3⟩ := HK.out.2 h
    exact ⟨b, o, h1, Nat.lt_of_lt_of_le h2 hg0.size, fun k x hx => rangeAt_below (h3 k x hx) (hg0.block b h2)⟩⟩
  have hvs1 : IntsAt w1 .u64 va vs := ⟨HV.out.1, fun h => by
    obtain ⟨b, o, h1, h2, h3⟩ := HV.out.2 h
    exact ⟨b, o, h1, Nat.lt_of_lt_of_le h2 hg0.size, fun k v hv => (hg0.cell h2).trans (h3 k v hv)⟩⟩
  have hc9 := build9 e mk ca cc es ln ka va kc vc ks vs old lim w1 (by omega) hes1 hks1 hvs1 g5.symm (by omega) HCC.out
  have HG5 := hide g5
  have HGd := hide HE.out.1
  rw [g5] at hc9
  refine hc9.mono ?_
  rintro ex w2 ⟨h, rfl, hbu, hbe⟩
  obtain ⟨mo, M, HH0, hmo⟩ : ∃ (mo : Option Nat) (M : DataW Unit), Hst w1.heap.size h e mk mo old lim es vs.length M w2 ∧ ((ln = true ∧ mo = none) ∨ (ln = false ∧ ∃ mb, mo = some mb)) := by
    obtain ⟨q1, chv, mo, q2, q3, q4⟩ := hbu
    rcases q4 with ⟨q5, rfl⟩ | ⟨q5, mb, M, rfl, q6, q7⟩
    · exact ⟨none, .map [], ⟨q1, ⟨chv, q2, q3⟩, fun mb hm => by cases hm⟩, .inl ⟨q5, rfl⟩⟩
    · exact ⟨some mb, M, ⟨q1, ⟨chv, q2, q3⟩, fun mb' hm => by cases hm; exact ⟨q6, q7⟩⟩, .inr ⟨q5, mb, rfl⟩⟩
  have HX2 := hide (HX1.out.next hsz1 hbe)
  have HH := hide HH0
  have hS2 : w1.heap.size ≤ w2.heap.size := hbe.size
  clear hc9 hes1 hks1 hvs1 hbu hbe HH0 c0 c1 c2 c3 c4 c5 c6 c7 HX1 hg0 HE HV HCC
  generalize w1.heap.size = S at HH hS2 hsz1
  go_wp2_with (show wpList _ _ _ (Oper.mk _ (Op.load 34 (.tmp 9)) _ _ _ _ :: _) _ _; refine wpList_load_mid rfl 34 (.tmp 9) rfl (w.heap.size + 1) 0 rfl D _ HX2.out.load Try.underlying34 rfl HS34.out ?_)
  refine (noteH HH.out hS2 HD.out wl1 ct1 hd1 (by omega) HGd.out (by unfold maxLen; omega) (by omega) hl1 (HW.out mk)).mono ?_
  rintro ex w3 ⟨rfl, e', mk', old', es', ms', M', H3, hb3, hst, hes', hg'⟩
  have HX3 := hide (HX2.out.next hsz1 hb3)
  have HH3 := hide H3
  have HST := hide hst
  have HG3 := hide hg'
  have hS3 : S ≤ w3.heap.size := Nat.le_trans hS2 hb3.size
  clear H3 hb3 hst hg' HX2 HH hS2
  go_wp2_with fail
  refine (readH HH3.out (by omega) HG3.out).mono ?_
  rintro ex w4 ⟨B0, B1, B2, B3, B4, rfl, hsv, hb4⟩
  have HL4 : Hid (Bx w #[.int .u64 e, .bool mk, .slice ca es.length cc, .bool ln, .slice ka ks.length kc, .slice va vs.length vc, .int .u64 old, .int .i64 lim] D w4 ∧ Hst S h e' mk' mo old' lim es' ms' M' w4 ∧ SeenV S B0 B1 B2 B3 B4 es' w4 ∧ S ≤ w4.heap.size) := ⟨HX3.out.next (Nat.le_trans hsz1 hS3) hb4, HH3.out.next hb4.block, hsv.base hS3, Nat.le_trans hS3 hb4.size⟩
  clear hsv hb4 HX3 HH3 hS3
  go_wp2_with (first
    | (show wpList _ _ _ (Oper.mk _ (Op.store 44 (.tmp 18) (.tmp 93)) _ _ _ _ :: _) _ _; refine wpList_store_all rfl 44 (.tmp 18) (.tmp 93) rfl w4.heap.size 0 (view e' mk' B0 B1 B2 B3 B4 es'.length mo.isNone (mlen mo M') old' lim) rfl rfl (there44 _ _ _ _ _ _ _ _ _ _ _ _) size44 (view_one _ _ _ _ _ _ _ _ _ _ _ _) ?_
       intro w5 hw5
       obtain ⟨hb5, hv5⟩ := boxed (z := c44) (vw := (view e' mk' B0 B1 B2 B3 B4 es'.length mo.isNone (mlen mo M') old' lim)) (by simp [view, c44]) hw5
       have HL5 : Hid (LL w #[.int .u64 e, .bool mk, .slice ca es.length cc, .bool ln, .slice ka ks.length kc, .slice va vs.length vc, .int .u64 old, .int .i64 lim] D S h e' mk' mo old' lim es' ms' M' w4.heap.size (view e' mk' B0 B1 B2 B3 B4 es'.length mo.isNone (mlen mo M') old' lim) B0 B1 B2 B3 B4 w5) := ⟨HL4.out.1.next HL4.out.1.size hb5, HL4.out.2.1.next hb5.block, hv5, HL4.out.2.2.1.of_blocks fun k hk _ => hb5.block k hk, hsz1, Nat.le_trans HL4.out.2.2.2 hb5.size⟩
       clear hw5 hb5 hv5 HL4)
    | (show wpList _ _ _ (Oper.mk _ (Op.load 34 (.tmp 9)) _ _ _ _ :: _) _ _; refine wpList_load_mid rfl 34 (.tmp 9) rfl (w.heap.size + 1) 0 rfl D _ (by assumption : Hid (LL _ _ _ _ _ _ _ _ _ _ _ _ _ _ _ _ _ _ _ _ _)).out.bx.load Try.underlying34 rfl HS34.out ?_))
  generalize w4.heap.size = bv at HL5 ⊢
  obtain ⟨V0, hmv⟩ : ∃ V0, mval mo M' D = V0 := ⟨_, rfl⟩
  obtain ⟨O0, hmh⟩ : ∃ O0, mhas mo M' D = O0 := ⟨_, rfl⟩
  have hchk : (ln = true ∧ O0 = false) ∨ (ln = false ∧ O0 = true ∧ V0 = e' ∧ mk' = false) := by
    rcases hmo with ⟨q1, rfl⟩ | ⟨q1, mb, rfl⟩
    · exact .inl ⟨q1, by rw [← hmh]; rfl⟩
    · rcases HST.out with q2 | ⟨q2, q3, q4⟩
      · cases q2
      · exact .inr ⟨q1, by rw [← hmh]; simp [mhas, q3], by rw [← hmv]; simp [mval, q4], q2⟩
  have hlast := lastH HL5.out.hst HD.out
  rw [hmv, hmh] at hlast
  refine hlast.mono ?_
  rintro ex w6 ⟨rfl, hb6⟩
  have HL6 := hide (HL5.out.next hb6)
  clear hlast hb6 HL5 hmo
  have cs3 : w6.cell? ⟨w.heap.size, 3, none⟩ = some (.bool ln) := hcell HL6.out.bx.b8 3 rfl
  have cs4 : w6.cell? ⟨w.heap.size, 4, none⟩ = some (.slice ka ks.length kc) := hcell HL6.out.bx.b8 4 rfl
  have cv0 : w6.cell? ⟨bv, 0, none⟩ = some (.int .u64 e') := hcell HL6.out.vw 0 rfl
  have cv1 : w6.cell? ⟨bv, 1, none⟩ = some (.bool mk') := hcell HL6.out.vw 1 rfl
  obtain ⟨j0, hj0, ha0, hbz0, hcz0⟩ := info_parts i28
  obtain ⟨j4, hj4, ha4, hbz4, hcz4⟩ := info_parts i4
  have hrefl : (e' == e') = true := by simp
  rcases hchk with ⟨hln, hO0⟩ | ⟨hln, hO0, hV0, hmk⟩
  all_goals
    go_wp2_with (first
      | (at_make; refine wpList_make_full _ rfl _ _ 31 rfl w6.heap.size 28 j0 (.int .u64 0) 1 Try.underlying31 hj0 ha0 hbz0 _ _ _ _ vs.length rfl rfl rfl rfl (by rw [hcz0]; omega) (by unfold maxLen; omega) (Nat.le_refl _) ?_; intro w7 ho7 hg7)
      | (at_make; refine wpList_make_full _ rfl _ _ 42 rfl w6.heap.size 4 j4 (.bool false) 1 Try.underlying42 hj4 ha4 hbz4 _ _ _ _ vs.length rfl rfl rfl rfl (by rw [hcz4]; omega) (by unfold maxLen; omega) hg7.size ?_; intro w8 ho8 hg8))
    first | clear hmk | skip
    have HB8 : Hid (Below w6.heap.size w6 w8) := ((Below.refl _ _).grown hg7 (Nat.le_refl _) (by simp)).grown hg8 hg7.size (by simp)
    have HR8 : Hid (RW mo M' ks w6.heap.size w7.heap.size 0 w8) := by
      obtain ⟨c, q, s⟩ := made_open ho7
      obtain ⟨d, p, u⟩ := made_open ho8
      exact ⟨⟨c, (hg8.block _ (lt_of_heap q) (by simp)).trans q, by rw [HG5.out]; omega, fun t h => by omega⟩, ⟨d, p, by rw [HG5.out]; omega, fun t h => by omega⟩⟩
    have hO : w6.heap.size ≤ w7.heap.size := hg7.size
    clear ho7 ho8 hg7 hg8 cs3 cs4 cv0 cv1
    generalize w7.heap.size = O at HR8 hO ⊢
    go_loopw [24] (fun q wr => ∃ j : Nat, q = .int .i64 j ∧ j ≤ vs.length ∧ Hid (Below w6.heap.size w6 wr ∧ RW mo M' ks w6.heap.size O j wr)) (fun q _ => vs.length - (intOf q).toNat)
    case atStart => exact ⟨0, rfl, Nat.zero_le _, ⟨HB8.out, HR8.out⟩⟩
    case round =>
      obtain ⟨j, rfl, hj, HJ⟩ := hrel
      by_cases hjn : j < vs.length
      · have hjj := hjn
        obtain ⟨Dj, hDj⟩ : ∃ Dj, ks[j]? = some Dj := ⟨_, List.getElem?_eq_getElem (by rw [HG5.out]; exact hjn)⟩
        have hdv : Dev Dj := HK.out.1 Dj (List.mem_of_getElem? hDj)
        have hgd : ks.getD j [] = Dj := by rw [List.getD_eq_getElem?_getD, hDj]; rfl
        obtain ⟨kb, koff, rfl, hkb, hkr⟩ := HK.out.2 (fun e => by rw [e] at hDj; cases hDj)
        have HLr := hide (HL6.out.next HJ.out.1)
        have HRG : Hid (wr.rangeAt kb (koff + j * 16) Dj) := rangeAt_below (hkr j Dj hDj) (HLr.out.bx.below.block kb hkb)
        have cs4 : wr.cell? ⟨w.heap.size, 4, none⟩ = some (.slice (some ⟨kb, koff, none⟩) ks.length kc) := hcell HLr.out.bx.b8 4 rfl
        obtain ⟨vj, hvj⟩ : ∃ vj, mval mo M' (ks.getD j []) = vj := ⟨_, rfl⟩
        obtain ⟨oj, hoj⟩ : ∃ oj, mhas mo M' (ks.getD j []) = oj := ⟨_, rfl⟩
        have hlast := lastH HLr.out.hst hdv
        rw [← hgd, hvj, hoj, hgd] at hlast
        have HDV := hide hdv
        have HVJ := hide hvj
        have HOJ := hide hoj
        clear hDj hkr hgd hdv hvj hoj
        go_wp2_with (show wpList _ _ _ (Oper.mk _ (Op.load 34 (.tmp 132)) _ _ _ _ :: _) _ _; refine wpList_load_mid rfl 34 (.tmp 132) rfl kb (koff + j * 16) rfl Dj _ HRG.out Try.underlying34 rfl (by rw [HDV.out.1]; exact size34) ?_)
        refine hlast.mono ?_
        rintro ex w9 ⟨rfl, hb9⟩
        have R9 := HJ.out.2.next hb9.block
        have B9 : Below w6.heap.size w6 w9 := HJ.out.1.trans (hb9.mono HJ.out.1.size)
        obtain ⟨⟨ya, qa9⟩, fa9, ⟨yo, qo9⟩, fo9⟩ := R9.cells (t := j) (by rw [HG5.out]; exact hjn)
        have hne := R9.ne
        have HN9 : Hid (Below w6.heap.size w6 ((w9.setCell ⟨w6.heap.size, j, none⟩ (.int .u64 vj)).setCell ⟨O, j, none⟩ (.bool oj)) ∧ RW mo M' ks w6.heap.size O (j + 1) ((w9.setCell ⟨w6.heap.size, j, none⟩ (.int .u64 vj)).setCell ⟨O, j, none⟩ (.bool oj))) := by
          have := R9.step (j := j) (by rw [HG5.out]; exact hjn)
          rw [HVJ.out, HOJ.out] at this
          exact ⟨(B9.setCell (p := ⟨w6.heap.size, j, none⟩) (Nat.le_refl _) _).setCell (p := ⟨O, j, none⟩) hO _, this⟩
        clear R9 B9 hb9 hlast cs4 HLr
        go_wp2
        go_roundw
        case rel => first | exact ⟨j + 1, by go_num, by omega, HN9⟩ | (refine ⟨trivial, ?_⟩; (repeat apply Exists.intro); exact ⟨⟨j + 1, by go_num, by omega, HN9⟩, rfl⟩)
        case measure => simp [intOf]; omega
      · obtain rfl : j = vs.length := by omega
        obtain ⟨wq, rfl⟩ : ∃ wq, wq = wr := ⟨_, rfl⟩
        have HLr := hide (HL6.out.next HJ.out.1)
        have HRW := hide HJ.out.2
        clear HJ HL6 HB8 HR8
        go_wp2_with (show wpList _ _ _ (Oper.mk _ (Op.load 34 (.tmp 9)) _ _ _ _ :: _) _ _; refine wpList_load_mid rfl 34 (.tmp 9) rfl (w.heap.size + 1) 0 rfl D _ HLr.out.bx.load Try.underlying34 rfl HS34.out ?_)
        refine (noteSame HLr.out.hst HLr.out.hS HD.out HST.out wl2 ct2 hd2).mono ?_
        rintro ex w10 ⟨rfl, H10, hg10⟩
        have HL10 := hide (HLr.out.noted H10 hg10)
        have HR10 : Hid (RW mo M' ks w6.heap.size O vs.length w10) := by
          obtain ⟨chv, q1, _⟩ := HLr.out.hst.main
          exact HRW.out.noted q1 hg10
        clear H10 hg10 HLr HRW
        go_wp2_with fail
        refine (readH HL10.out.hst (by omega) HG3.out).mono ?_
        rintro ex w11 ⟨C0, C1, C2, C3, C4, rfl, hsv, hb11⟩
        have HL11 := hide (HL10.out.next hb11)
        have HR11 := hide (HR10.out.next hb11.block)
        have HC11 : Hid (SeenV S C0 C1 C2 C3 C4 es' w11) := hsv.base HL10.out.hS
        clear hsv hb11 HL10 HR10
        go_wp2_with (first
          | (show wpList _ _ _ (Oper.mk _ (Op.store 44 (.tmp 27) (.tmp 152)) _ _ _ _ :: _) _ _; refine wpList_store_all rfl 44 (.tmp 27) (.tmp 152) rfl w11.heap.size 0 (view e' mk' C0 C1 C2 C3 C4 es'.length mo.isNone (mlen mo M') old' lim) rfl rfl (there44 _ _ _ _ _ _ _ _ _ _ _ _) size44 (view_one _ _ _ _ _ _ _ _ _ _ _ _) ?_
             intro w12 hw12
             obtain ⟨hb12, hv12⟩ := boxed (z := c44) (vw := (view e' mk' C0 C1 C2 C3 C4 es'.length mo.isNone (mlen mo M') old' lim)) (by simp [view, c44]) hw12
             have HL12 := hide (HL11.out.next hb12)
             have HR12 := hide (HR11.out.next hb12.block)
             have HC12 : Hid (SeenV S C0 C1 C2 C3 C4 es' w12) := HC11.out.of_blocks fun k hk _ => hb12.block k hk
             have HV12 := hide hv12
             clear hw12 hb12 hv12 HL11 HR11 HC11)
          | (show wpList _ _ _ (Oper.mk _ (Op.load 44 (.tmp 18)) _ _ _ _ :: _) _ _; refine wpList_load_row rfl 44 (.tmp 18) rfl bv rfl 44 (view e' mk' B0 B1 B2 B3 B4 es'.length mo.isNone (mlen mo M') old' lim) (0, 0) _ HL12.out.vw Try.underlying44 rfl size44 ?_)
          | (show wpList _ _ _ (Oper.mk _ (Op.load 44 (.tmp 27)) _ _ _ _ :: _) _ _; refine wpList_load_row rfl 44 (.tmp 27) rfl w11.heap.size rfl 44 (view e' mk' C0 C1 C2 C3 C4 es'.length mo.isNone (mlen mo M') old' lim) (0, 0) _ HV12.out Try.underlying44 rfl size44 ?_))
        refine (same13 e' mk' S B0 B1 B2 B3 B4 C0 C1 C2 C3 C4 es' mo.isNone (mlen mo M') old' lim w12 (by omega) HG3.out HL12.out.seen HC12.out).mono ?_
        rintro ex w13 ⟨rfl, hb13⟩
        have HL13 := hide (HL12.out.next hb13)
        have HR13 := hide (HR12.out.next hb13.block)
        clear hb13 HL12 HR12 HC12 HV12
        go_wp2_with (show wpList _ _ _ (Oper.mk _ (Op.load 34 (.tmp 9)) _ _ _ _ :: _) _ _; refine wpList_load_mid rfl 34 (.tmp 9) rfl (w.heap.size + 1) 0 rfl D _ HL13.out.bx.load Try.underlying34 rfl HS34.out ?_)
        have hlast2 := lastH HL13.out.hst HD.out
        rw [hmv, hmh] at hlast2
        refine hlast2.mono ?_
        rintro ex w14 ⟨rfl, hb14⟩
        have HL14 := hide (HL13.out.next hb14)
        have HR14 := hide (HR13.out.next hb14.block)
        clear hb14 HL13 HR13 hlast2
        go_wp2_with fail
        go_loopw [30] (fun q wr => ∃ j : Nat, q = .int .i64 j ∧ j ≤ vs.length ∧ Hid (Below w14.heap.size w14 wr)) (fun q _ => vs.length - (intOf q).toNat)
        case atStart => exact ⟨0, rfl, Nat.zero_le _, Below.refl _ _⟩
        case round =>
          obtain ⟨j, rfl, hj, HJ⟩ := hrel
          by_cases hjn : j < vs.length
          · have hjj := hjn
            obtain ⟨Dj, hDj⟩ : ∃ Dj, ks[j]? = some Dj := ⟨_, List.getElem?_eq_getElem (by rw [HG5.out]; exact hjn)⟩
            have hdv : Dev Dj := HK.out.1 Dj (List.mem_of_getElem? hDj)
            have hgd : ks.getD j [] = Dj := by rw [List.getD_eq_getElem?_getD, hDj]; rfl
            obtain ⟨kb, koff, rfl, hkb, hkr⟩ := HK.out.2 (fun e => by rw [e] at hDj; cases hDj)
            have HLr := hide (HL14.out.next HJ.out)
            have HRG : Hid (wr.rangeAt kb (koff + j * 16) Dj) := rangeAt_below (hkr j Dj hDj) (HLr.out.bx.below.block kb hkb)
            have cs4 : wr.cell? ⟨w.heap.size, 4, none⟩ = some (.slice (some ⟨kb, koff, none⟩) ks.length kc) := hcell HLr.out.bx.b8 4 rfl
            obtain ⟨vj, hvj⟩ : ∃ vj, mval mo M' (ks.getD j []) = vj := ⟨_, rfl⟩
            obtain ⟨oj, hoj⟩ : ∃ oj, mhas mo M' (ks.getD j []) = oj := ⟨_, rfl⟩
            have hlast := lastH HLr.out.hst hdv
            rw [← hgd, hvj, hoj, hgd] at hlast
            have HDV := hide hdv
            have HVJ := hide hvj
            have HOJ := hide hoj
            clear hDj hkr hgd hdv hvj hoj
            go_wp2_with (show wpList _ _ _ (Oper.mk _ (Op.load 34 (.tmp 181)) _ _ _ _ :: _) _ _; refine wpList_load_mid rfl 34 (.tmp 181) rfl kb (koff + j * 16) rfl Dj _ HRG.out Try.underlying34 rfl (by rw [HDV.out.1]; exact size34) ?_)
            refine hlast.mono ?_
            rintro ex w9 ⟨rfl, hb9⟩
            have HN9 : Hid (Below w14.heap.size w14 w9) := HJ.out.trans (hb9.mono HJ.out.size)
            obtain ⟨qa9, qo9⟩ := (HR14.out.next HN9.out.block).vals (t := j) hjn
            rw [HVJ.out] at qa9
            rw [HOJ.out] at qo9
            clear hb9 hlast cs4 HLr
            go_wp2
            go_roundw
            case rel => first | exact ⟨j + 1, by go_num, by omega, HN9⟩ | (refine ⟨trivial, ?_⟩; (repeat apply Exists.intro); exact ⟨⟨j + 1, by go_num, by omega, HN9⟩, rfl⟩)
            case measure => simp [intOf]; omega
          · obtain rfl : j = vs.length := by omega
            have HLe := hide (HL14.out.next HJ.out)
            go_wp2
            go_ret
            exact ⟨rfl, HLe.out.bx.below⟩
end Go.Proofs.Qxb6603893a
