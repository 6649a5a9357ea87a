import Derived.Test.Qxb6600487aGrow
import Derived.Deep.RegionWith
import Derived.BigQuiet
namespace Go.Proofs.Qxb6600487a
open Go.RowKit Dec Go.Maps
set_option linter.unusedVariables false

theorem law9 : Keyed Try.prog 9 := string_keyed Try.underlying9
def key (s : ByteArray) : Lit := .string s.data.toList
theorem hkey9 (s : ByteArray) (h : s.size ≤ maxLen) : keyOf Try.prog 9 (.string s) = some (key s) := WideMaps.keyOf_string_mk Try.underlying9 h

/-- The index in memory: its struct, the table without spare room, the map. -/
structure Nix (B : Nat) (w : World) (xb mb : Nat) (bv : Value) (T : List Int) (dn : Int) (n : Nat) (D : DataW Unit) : Prop where
  blk : w.heap[xb]? = some (.cells #[bv, .map (some mb), .int .i64 dn] 56 (0, 0))
  tab : Tab B w bv T
  map : w.ownsMap Try.prog 9 (plainElem Try.prog 21) mb n D
  bx : B ≤ xb
  bm : B ≤ mb

/-- What an addition leaves alone: all below B, and of the call's own all but the struct, the map and rows of int32. -/
structure Kept (B xb mb : Nat) (w w' : World) : Prop where
  below : Below B w w'
  other : ∀ k, k < w.heap.size → k ≠ xb → k ≠ mb → (∀ c fr, w.heap[k]? ≠ some (.cells c 21 fr)) → w'.heap[k]? = w.heap[k]?

theorem Nix.cell0 {B : Nat} {w : World} {xb mb : Nat} {bv : Value} {T : List Int} {dn : Int} {n : Nat} {D : DataW Unit} (h : Nix B w xb mb bv T dn n D) : w.cell? ⟨xb, 0, none⟩ = some bv := by
  rw [cell_of_row w xb 0 _ 56 _ h.blk]; rfl
theorem Nix.cell1 {B : Nat} {w : World} {xb mb : Nat} {bv : Value} {T : List Int} {dn : Int} {n : Nat} {D : DataW Unit} (h : Nix B w xb mb bv T dn n D) : w.cell? ⟨xb, 0 + 1, none⟩ = some (.map (some mb)) := by
  rw [cell_of_row w xb 1 _ 56 _ h.blk]; rfl
theorem Nix.cell2 {B : Nat} {w : World} {xb mb : Nat} {bv : Value} {T : List Int} {dn : Int} {n : Nat} {D : DataW Unit} (h : Nix B w xb mb bv T dn n D) : w.cell? ⟨xb, 0 + 2, none⟩ = some (.int .i64 dn) := by
  rw [cell_of_row w xb 2 _ 56 _ h.blk]; rfl
theorem Nix.frozen {B : Nat} {w : World} {xb mb : Nat} {bv : Value} {T : List Int} {dn : Int} {n : Nat} {D : DataW Unit} (h : Nix B w xb mb bv T dn n D) (j : Nat) : w.frozen? ⟨xb, j, none⟩ = false :=
  frozen_of_row w xb j _ 56 h.blk

theorem lt_of_heap {w : World} {k : Nat} {o : Obj} (h : w.heap[k]? = some o) : k < w.heap.size := (Array.getElem?_eq_some_iff.1 h).1

theorem ownsMap_ne {w : World} {mb n k : Nat} {e : TypeId} {D : DataW Unit} (hm : w.ownsMap Try.prog 9 (plainElem Try.prog e) mb n D) {c : Array Value} {t : TypeId} {fr : Nat × Nat} (h : w.heap[k]? = some (.cells c t fr)) : k ≠ mb := by
  rintro rfl
  obtain ⟨es, clock, hb, _⟩ := hm
  rw [h] at hb
  cases hb

theorem Tab.kept {B : Nat} {w w' : World} {bv : Value} {T : List Int} (h : Tab B w bv T) (hk : ∀ (g : Nat) (c : Array Value), w.heap[g]? = some (Obj.cells c 21 (0, 0)) → w'.heap[g]? = w.heap[g]?) : Tab B w' bv T := by
  refine ⟨?_, h.len⟩
  rcases h.shape with h1 | ⟨g, e, hb, hg⟩
  · exact Or.inl h1
  · exact Or.inr ⟨g, e, hb, by rw [hk g _ hg]; exact hg⟩

theorem Nix.mapped {B : Nat} {w w' : World} {xb mb : Nat} {bv : Value} {T : List Int} {dn : Int} {n n' : Nat} {D D' : DataW Unit} (h : Nix B w xb mb bv T dn n D)
    (hm : w'.ownsMap Try.prog 9 (plainElem Try.prog 21) mb n' D') (hg : w.grownBy w' (some mb)) : Nix B w' xb mb bv T dn n' D' ∧ Kept B xb mb w w' := by
  have hx : xb ≠ mb := ownsMap_ne h.map h.blk
  refine ⟨⟨?_, ?_, hm, h.bx, h.bm⟩, ⟨?_, ?_⟩⟩
  · rw [hg.block xb (lt_of_heap h.blk) (by simp [hx])]; exact h.blk
  · exact h.tab.kept fun g c hgc => hg.block g (lt_of_heap hgc) (by have := ownsMap_ne h.map hgc; simp [this])
  · exact (Below.refl _ _).grown hg (by have := h.bx; have := lt_of_heap h.blk; omega) (fun k e => by cases e; exact h.bm)
  · exact fun k hk _ hkm _ => hg.block k hk (by simp [hkm])

set_option maxHeartbeats 400000 in
theorem add_plain (B xb mb : Nat) (bv : Value) (T : List Int) (dn : Int) (n : Nat) (D : DataW Unit) (s : ByteArray) (v : Nat) (w : World) (h : Nix B w xb mb bv T dn n D) (hs : s.size ≤ 2000000) (hv : v ≤ 65536) (hn : n < 2000000) (hd : dec (nb s) = none) :
    Calls Try.prog 33 #[.pointer (some ⟨xb, 0, none⟩), .string s, .int .i32 (v : Int)] w fun e w' => e = .returned (.tuple #[]) ∧ Nix B w' xb mb bv T dn (n + 1) (D.put (key s) (.lit (.int .i32 v))) ∧ Kept B xb mb w w' := by
  have c1 := h.cell1
  have hk := hkey9 s (by unfold maxLen; omega)
  have hw : (Lit.int .i32 (v : Int)).wf = true := WalkArith.wf_i32 (by omega)
  have HM := h.map
  go_enter Try.func33, Try.ntmps33
  go_wp2_with (first | (go_at_call 37; refine (decimal_none _ _ hs hd).mono ?_; rintro e w' ⟨rfl, rfl⟩) | (at_mapUpdate; go_loud (refine wpList_mapUpdate_own _ rfl _ _ _ 53 rfl 9 21 law9 Try.underlying53 _ mb n D rfl HM (by unfold maxLen; omega) _ _ _ rfl rfl hk _ [] (plainElem_int Try.underlying21 hw) ?_)))
  intro w1 hm1 hg1
  obtain ⟨hN, hK⟩ := h.mapped hm1 hg1
  clear hm1 hg1 HM h
  go_wp2
  go_end0
  exact ⟨rfl, hN, hK⟩

theorem Nix.counted {B : Nat} {w : World} {xb mb : Nat} {bv : Value} {T : List Int} {dn : Int} {n : Nat} {D : DataW Unit} (h : Nix B w xb mb bv T dn n D) (x : Int) :
    Nix B (w.setCell ⟨xb, 0 + 2, none⟩ (.int .i64 x)) xb mb bv T x n D ∧ Kept B xb mb w (w.setCell ⟨xb, 0 + 2, none⟩ (.int .i64 x)) := by
  have hx : xb ≠ mb := ownsMap_ne h.map h.blk
  refine ⟨⟨?_, ?_, ?_, h.bx, h.bm⟩, ⟨(Below.refl _ _).setCell h.bx _, fun k _ hkx _ _ => heap_setCell_other w _ k _ hkx⟩⟩
  · have := heap_setCell_same w xb 2 _ 56 (.int .i64 x) h.blk
    exact this
  · refine h.tab.kept fun g c hgc => heap_setCell_other w _ g _ ?_
    rintro rfl
    have := h.blk
    rw [hgc] at this
    cases this
  · exact h.map.setCell (fun e => hx e.symm) _

theorem Kept.trans {B xb mb : Nat} {w w1 w2 : World} (h : Kept B xb mb w w1) (h' : Kept B xb mb w1 w2) : Kept B xb mb w w2 :=
  ⟨h.below.trans h'.below, fun k hk h1 h2 h3 => by
    have e := h.other k hk h1 h2 h3
    rw [h'.other k (Nat.lt_of_lt_of_le hk h.below.size) h1 h2 (fun c fr => by rw [e]; exact h3 c fr), e]⟩

theorem wrap_mid (z : Int) (h0 : 0 ≤ z) (h1 : z < 1000000000000) : IntKind.i64.wrap z = z := by
  simp [IntKind.wrap, IntKind.bits, IntKind.signed]
  omega

theorem run_add_gen (x y Q : Int) (hQ : Q = x + y) (h0 : 0 ≤ Q) (h1 : Q < 1000000000000) (w : World) : (binOp .add 3 (.int .i64 x) (.int .i64 y)).run Try.prog w = .ok (.int .i64 Q) w := by
  have e : (binOp .add 3 (.int .i64 x) (.int .i64 y)).run Try.prog w = .ok (.int .i64 (IntKind.i64.wrap (x + y))) w := by
    simp [binOp, Op.intArith]
  rw [e, ← hQ, wrap_mid Q h0 h1]

theorem wpList_add16 (w : World) {ops : Array Oper} {rest : List Oper} {o : Oper} {a : Act} {Q : Exit → Act → World → Prop} (t : Nat)
    (hop : o.op = Op.binOp BinOp.add 3 (.tmp t) (.const (.int .i64 65536)) 3) (hw : Region.wanted o (yielded ops a.tmps) = true) (x q : Int) (hx : a.eval (.tmp t) = .int .i64 x)
    (hrun : ∀ w, (binOp .add 3 (.int .i64 x) (.int .i64 65536)).run Try.prog w = .ok (.int .i64 q) w)
    (h : wpList Try.prog ops Q rest (a.put o.dst (.int .i64 q)) w) : wpList Try.prog ops Q (o :: rest) a w := by
  refine BigFrame.wpList_want hw fun K hK => ?_
  have e : execOp a.eval o = (do pure (Next.value (← binOp .add 3 (.int .i64 x) (.int .i64 65536)))) := by
    simp only [execOp, hop, hx]
    rfl
  unfold Oper.wp
  rw [e]
  simp only [Sem.run_bind, hrun, Result.andThen, Sem.run_pure, Oper.upon_value]
  exact hK _ _ h

set_option maxRecDepth 100000 in
set_option maxHeartbeats 400000 in
theorem add_far (B xb mb : Nat) (bv : Value) (T : List Int) (dn : Int) (n : Nat) (D : DataW Unit) (s : ByteArray) (v k : Nat) (w : World) (h : Nix B w xb mb bv T dn n D) (hs : s.size ≤ 2000000) (hv : v ≤ 65536) (hn : n < 2000000) (hdn0 : 0 ≤ dn) (hdn1 : dn ≤ 1000000) (hd : dec (nb s) = some k) (hk0 : k < 1000000000) (hk : (4 : Int) * (v : Int) + 65536 ≤ (k : Int)) :
    Calls Try.prog 33 #[.pointer (some ⟨xb, 0, none⟩), .string s, .int .i32 (v : Int)] w fun e w' => e = .returned (.tuple #[]) ∧ Nix B w' xb mb bv T (dn + 1) (n + 1) (D.put (key s) (.lit (.int .i32 v))) ∧ Kept B xb mb w w' := by
  have c2 := h.cell2
  have f2 := h.frozen (0 + 2)
  obtain ⟨h2, hK2⟩ := h.counted (dn + 1)
  have c1 := h2.cell1
  have hkk := hkey9 s (by unfold maxLen; omega)
  have hw : (Lit.int .i32 (v : Int)).wf = true := WalkArith.wf_i32 (by omega)
  have HM := h2.map
  have HK2 : Hid (Kept B xb mb w (w.setCell ⟨xb, 0 + 2, none⟩ (.int .i64 (dn + 1)))) := hK2
  clear hK2 h
  simp only [Nat.zero_add] at c1 c2 f2 HM
  have HN2 : Hid (Nix B (w.setCell ⟨xb, 0 + 2, none⟩ (.int .i64 (dn + 1))) xb mb bv T (dn + 1) n D) := h2
  clear h2
  obtain ⟨q, hq⟩ : ∃ q : Int, q = 4 * (v : Int) + 65536 := ⟨_, rfl⟩
  have hadd := run_add_gen (4 * (v : Int)) 65536 q hq (by omega) (by omega)
  have hkq : q ≤ (k : Int) := by omega
  clear hq hk
  go_enter Try.func33, Try.ntmps33
  go_wp2_with (first | (go_at_call 37; refine (decimal_some _ _ _ hd).mono ?_; rintro e w' ⟨rfl, rfl⟩) | (refine wpList_add16 _ 18 rfl rfl (4 * (v : Int)) q rfl hadd ?_) | (at_mapUpdate; go_loud (refine wpList_mapUpdate_own _ rfl _ _ _ 53 rfl 9 21 law9 Try.underlying53 _ mb n D rfl HM (by unfold maxLen; omega) _ _ _ rfl rfl hkk _ [] (plainElem_int Try.underlying21 hw) ?_)))
  intro w1 hm1 hg1
  obtain ⟨hN, hK⟩ := HN2.out.mapped hm1 hg1
  have hKK := HK2.out.trans hK
  clear hm1 hg1 HM hK
  go_wp2
  go_end0
  exact ⟨rfl, hN, hKK⟩

theorem getD_set_int {T : List Int} {k : Nat} {x : Int} (hk : k < T.length) (j : Nat) : (T.set k x).getD j 0 = if j = k then x else T.getD j 0 := by
  rw [List.getD_eq_getElem?_getD, List.getElem?_set, List.getD_eq_getElem?_getD]
  by_cases e : k = j
  · subst e; simp [hk]
  · rw [if_neg e, if_neg (fun h => e h.symm)]

theorem Nix.tabled {B : Nat} {w : World} {xb mb g : Nat} {T : List Int} {L : Nat} {dn : Int} {n : Nat} {D : DataW Unit} (h : Nix B w xb mb (.slice (some ⟨g, 0, none⟩) L L) T dn n D) (k : Nat) (x : Int) :
    Nix B (w.setCell ⟨g, k, none⟩ (.int .i32 x)) xb mb (.slice (some ⟨g, 0, none⟩) L L) (T.set k x) dn n D ∧ Kept B xb mb w (w.setCell ⟨g, k, none⟩ (.int .i32 x)) ∧ L = T.length ∧ w.heap[g]? = some (.cells (T.map (Value.int .i32)).toArray 21 (0, 0)) := by
  rcases h.tab.shape with ⟨e, _⟩ | ⟨g', e, hb, hg⟩
  · cases e
  · simp only [Value.slice.injEq, Option.some.injEq, Addr.mk.injEq, and_true, and_self] at e
    obtain ⟨rfl, rfl⟩ := e
    have hgx : xb ≠ g := by
      rintro rfl
      have := h.blk
      rw [hg] at this
      simp only [Option.some.injEq, Obj.cells.injEq] at this
      exact absurd this.2.1 (by decide)
    have hgm : g ≠ mb := ownsMap_ne h.map hg
    refine ⟨⟨?_, ⟨Or.inr ⟨g, by simp, hb, ?_⟩, by simpa using h.tab.len⟩, ?_, h.bx, h.bm⟩, ⟨(Below.refl _ _).setCell hb _, fun k' _ _ _ hne => ?_⟩, rfl, hg⟩
    · rw [heap_setCell_other w _ xb _ hgx]; exact h.blk
    · have := heap_setCell_same w g k _ 21 (.int .i32 x) hg
      rw [this]
      congr 2
      apply Array.ext'
      simp [List.map_set]
    · exact h.map.setCell (fun e => hgm e.symm) _
    · refine heap_setCell_other w _ k' _ ?_
      rintro rfl
      exact hne _ _ hg

set_option maxRecDepth 100000 in
set_option maxHeartbeats 400000 in
theorem add_near (B xb mb g L : Nat) (T : List Int) (dn : Int) (n : Nat) (D : DataW Unit) (s : ByteArray) (v k : Nat) (w : World) (h : Nix B w xb mb (.slice (some ⟨g, 0, none⟩) L L) T dn n D) (hs : s.size ≤ 2000000) (hv : v ≤ 65536) (hd : dec (nb s) = some k) (hk0 : k < 1000000000) (hk : (k : Int) < (4 : Int) * (v : Int) + 65536) (hkL : k < L) :
    Calls Try.prog 33 #[.pointer (some ⟨xb, 0, none⟩), .string s, .int .i32 (v : Int)] w fun e w' => e = .returned (.tuple #[]) ∧ Nix B w' xb mb (.slice (some ⟨g, 0, none⟩) L L) (T.set k ((v : Int) + 1)) dn n D ∧ Kept B xb mb w w' := by
  have c0 := h.cell0
  obtain ⟨hN, hK, hL, hg⟩ := h.tabled k ((v : Int) + 1)
  have hLm := h.tab.len
  unfold maxLen at hLm
  have hcell : w.cell? ⟨g, k, none⟩ = some (.int .i32 (T.getD k 0)) := by
    rw [cell_of_row w g k _ 21 _ hg]
    simp [List.getD_eq_getElem?_getD, List.getElem?_eq_getElem (show k < T.length by omega)]
  have hf := frozen_of_row w g k _ 21 hg
  have hLm2 : L ≤ 9223372036854775807 := by omega
  clear h hg hL hLm
  obtain ⟨q, hq⟩ : ∃ q : Int, q = 4 * (v : Int) + 65536 := ⟨_, rfl⟩
  have hadd := run_add_gen (4 * (v : Int)) 65536 q hq (by omega) (by omega)
  have hkq : (k : Int) < q := by omega
  clear hq hk
  go_enter Try.func33, Try.ntmps33
  go_wp2_with (first | (go_at_call 37; refine (decimal_some _ _ _ hd).mono ?_; rintro e w' ⟨rfl, rfl⟩) | (refine wpList_add16 _ 18 rfl rfl (4 * (v : Int)) q rfl hadd ?_))
  first | go_end0 | exact bodyPost_ret (v := .tuple #[]) (by simp [results, Try.results33]) rfl ⟨rfl, hN, hK⟩
end Go.Proofs.Qxb6600487a
