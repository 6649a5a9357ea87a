import Derived.Test.Qxb6600487aZdec
import Derived.Maps.OwnSet
namespace Go.Proofs.Qxb6600487a
open Go.RowKit Dec
set_option linter.unusedVariables false

theorem Try.info21 : (Try.prog.info? 21).map (fun i => (i.zero, i.size, i.bytes)) = some (some (.int .i32 0), 1, 4) := by kernel_rfl

theorem zeroCells_one (z : Value) (n : Nat) : Builtin.zeroCells #[z] n = (List.replicate n z).toArray := by
  apply Array.ext'
  apply List.ext_getElem?
  intro j
  by_cases hj : j < n
  · simp [Builtin.zeroCells, hj, Nat.mod_one]
  · simp [Builtin.zeroCells, hj]

/-- 'append(s[:cap(s)], make([]int32, m)...)' where s has no spare room: a new row: what was there, then noughts. -/
theorem run_zeros (w : World) (ty : TypeId) (base : Option Addr) (L m : Nat) (olds : List Value) (hl : olds.length = L) (hm : 0 < m) (hb : L + m ≤ 1000000)
    (hold : ∀ w1 : World, (∀ a, w1.cell? a = w.cell? a) → (Builtin.firstCells 1 L (.slice base L L)).run Try.prog w1 = .ok olds.toArray w1) :
    ∃ cap, L + m ≤ cap ∧ cap ≤ maxLen ∧ (Builtin.append_ #[54, 3] ty #[.slice base L L, .int .i64 (m : Int)]).run Try.prog w =
      .ok (.slice (some ⟨w.heap.size, 0, none⟩) (L + m) cap) (w.drew.alloc (.cells (olds ++ List.replicate (cap - L) (Value.int .i32 0)).toArray 21)) := by
  obtain ⟨i0, hi, hz0, hz1, hz2⟩ := info_parts Try.info21
  refine ⟨grownCap w (L + m) L 21, grownCap_ge w _ _ _, grownCap_le_maxLen w _ _ _ (by unfold maxLen; omega), ?_⟩
  have hn : ¬ (L + m ≤ L) := by omega
  have hge := grownCap_ge w (L + m) L 21
  have h2 : ¬ ((m : Int) < 0) := by omega
  have h3 : ¬ ((m : Int) * (4 : Nat) > 2 ^ 48) := by omega
  have h4 : ¬ (9223372036854775807 < ((L : Int) + (m : Int))) := by omega
  have h5 : ¬ (281474976710656 < Builtin.nextslicecap (L + m) L * 4) := by
    have := nextslicecap_le (need := L + m) (old := L) (by omega)
    omega
  have h6 : ¬ (m = 0) := by omega
  have h1 : IntKind.i64.wrap (m : Int) = (m : Int) := by
    simp [IntKind.wrap, IntKind.bits, IntKind.signed]; omega
  have hfc := hold w.drew (fun a => rfl)
  have hsz : (olds ++ List.replicate (grownCap w (L + m) L 21 - L) (Value.int .i32 0)).toArray = olds.toArray ++ (List.replicate m (Value.int .i32 0)).toArray ++ (List.replicate (grownCap w (L + m) L 21 - (L + m)) (Value.int .i32 0)).toArray := by
    rw [show grownCap w (L + m) L 21 - L = m + (grownCap w (L + m) L 21 - (L + m)) by omega, ← List.replicate_append_replicate]
    simp
  rw [hsz]
  have hzc : (Value.int .i32 0).cells = #[Value.int .i32 0] := rfl
  simp [Builtin.append_, run_underlying Try.underlying54, run_underlying Try.underlying3, sizeOf, typeInfo, zeroValue, hi, hz0, hz1, hz2, asInt, asIntOf, h1, h2, h4, h5, h6, hn, hfc, Question.forced, newRow, grownCap, hzc, zeroCells_one]
  intro h
  omega

/-- What 'slices.Grow' is handed here: nil, or a row of the call's own without spare room. -/
structure Tab (B : Nat) (w : World) (bv : Value) (T : List Int) : Prop where
  shape : (bv = .slice none 0 0 ∧ T = []) ∨ ∃ g, bv = .slice (some ⟨g, 0, none⟩) T.length T.length ∧ B ≤ g ∧ w.heap[g]? = some (.cells (T.map (Value.int .i32)).toArray 21 (0, 0))
  len : T.length ≤ maxLen

theorem Tab.first {B : Nat} {w : World} {base : Option Addr} {L c : Nat} {T : List Int} (h : Tab B w (.slice base L c) T) (w1 : World) (hw : ∀ a, w1.cell? a = w.cell? a) :
    (Builtin.firstCells 1 L (.slice base L c)).run Try.prog w1 = .ok ((T.map (Value.int .i32))).toArray w1 := by
  rcases h.shape with ⟨e, rfl⟩ | ⟨g, e, _, hg⟩
  · simp only [Value.slice.injEq] at e
    obtain ⟨rfl, rfl, rfl⟩ := e
    exact run_firstCells_none _ 1 0 0 0
  · simp only [Value.slice.injEq] at e
    obtain ⟨rfl, rfl, rfl⟩ := e
    refine run_firstCells_some (P := Try.prog) w1 1 T.length ⟨g, 0, none⟩ T.length T.length _ (by simp) (fun j v hj => ?_)
    rw [hw, Addr.add_lit, Nat.zero_add, cell_of_row w g j _ 21 _ hg]
    simpa using hj

theorem wpList_zeros (w : World) {ops : Array Oper} {rest : List Oper} {o : Oper} {a : Act} {Q : Exit → Act → World → Prop}
    (hg : o.guard = none) (s x : Operand) (hop : o.op = Op.call { callee := Callee.builtin Builtin.append, args := #[s, x], argTypes := #[54, 3] })
    (base : Option Addr) (L m : Nat) (M : Int) (B : Nat) (T : List Int) (hT : Tab B w (.slice base L L) T) (hs : a.eval s = .slice base L L) (hx : a.eval x = .int .i64 M) (hM : M = (m : Int)) (hm : 0 < m) (hb : L + m ≤ 1000000)
    (hK : ∀ cap w', L + m ≤ cap → cap ≤ maxLen → w'.heap[w.heap.size]? = some (.cells ((T ++ List.replicate (cap - L) 0).map (Value.int .i32)).toArray 21 (0, 0)) → w.grownBy w' none → wpList Try.prog ops Q rest (a.put o.dst (.slice (some ⟨w.heap.size, 0, none⟩) (L + m) cap)) w') :
    wpList Try.prog ops Q (o :: rest) a w := by
  subst hM
  have hTL : (T.map (Value.int .i32)).length = L := by
    rcases hT.shape with ⟨e, rfl⟩ | ⟨g, e, _⟩
    · simp only [Value.slice.injEq] at e; simp [e.2.1]
    · simp only [Value.slice.injEq] at e; simp [e.2.1]
  obtain ⟨cap, h1, h2, hrun⟩ := run_zeros w o.type base L m (T.map (Value.int .i32)) hTL hm hb (fun w1 hw => hT.first w1 hw)
  refine wpList_plain hg fun K hK' => ?_
  unfold Oper.wp
  simp [execOp, hop, resolve, invoke, builtin, hs, hx, hrun, Result.andThen]
  refine hK' _ _ (hK cap _ h1 h2 ?_ ⟨rfl, rfl, rfl, by simp, fun k hk _ => Below.heap_alloc w.drew _ k hk⟩)
  have := heap_alloc_new w.drew (.cells (T.map (Value.int .i32) ++ List.replicate (cap - L) (Value.int .i32 0)).toArray 21)
  rw [List.map_append, List.map_replicate]
  exact this

set_option maxHeartbeats 400000 in
/-- 'slices.Grow' at a slice without spare room: more room, the same length. -/
theorem grow_any (B : Nat) (base : Option Addr) (L m : Nat) (T : List Int) (w : World) (hT : Tab B w (.slice base L L) T) (hm : 0 < m) (hb : L + m ≤ 1000000) :
    Calls Try.prog 38 #[.slice base L L, .int .i64 (m : Int)] w fun e w' => ∃ cap, L + m ≤ cap ∧ cap ≤ maxLen ∧ e = .returned (.slice (some ⟨w.heap.size, 0, none⟩) L cap) ∧
      w'.heap[w.heap.size]? = some (.cells ((T ++ List.replicate (cap - L) 0).map (Value.int .i32)).toArray 21 (0, 0)) ∧ w.grownBy w' none := by
  go_enter Try.func38, Try.ntmps38
  go_wp2_with (at_builtin; refine wpList_zeros _ rfl (.tmp 20) (.tmp 21) rfl base L m _ B T hT rfl rfl (by omega) hm hb ?_)
  intro cap w' h1 h2 h3 h4
  have H3 : Hid (w'.heap[w.heap.size]? = some (.cells ((T ++ List.replicate (cap - L) 0).map (Value.int .i32)).toArray 21 (0, 0))) := by
    show _ = _
    rw [h3, List.map_append, List.map_replicate]
  have H2 : Hid (cap ≤ maxLen) := h2
  unfold maxLen at h2
  clear h3 hT
  go_wp2
  go_ret
  exact ⟨cap, h1, H2.out, rfl, H3.out, h4⟩
end Go.Proofs.Qxb6600487a
