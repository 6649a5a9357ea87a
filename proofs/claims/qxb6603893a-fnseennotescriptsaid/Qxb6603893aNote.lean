import Derived.Test.Qxb6603893aDev
import Derived.WalkKit
import Derived.Deep.DeepAppendWide
import Derived.Great.BuildSlice
namespace Go.Proofs.Qxb6603893a
open Go.RowKit Go.Maps
set_option linter.unusedVariables false

theorem nilmap (w : World) (m : Option Nat) : (binOp .eql 69 (.map m) (.map none)).run Try.prog w = .ok (.bool m.isNone) w := run_eql_map_nil w _ _ _ m Try.underlying69

set_option maxHeartbeats 400000 in
theorem note22_nil (h : Nat) (c0 c1 c2 c4 c5 : Value) (D : List Value) (wl ct : Value) (hd : Bool) (w : World) (hh : w.heap[h]? = some (.cells #[c0, c1, c2, .map none, c4, c5] 71 (0, 0))) :
    Calls Try.prog 22 #[.pointer (some ⟨h, 0, none⟩), .agg D.toArray, .agg #[wl, ct], .bool hd] w fun e w' => e = .returned (.tuple #[]) ∧ Below w.heap.size w w' := by
  have hlt : h < w.heap.size := lt_of_heap hh
  have hnil := nilmap
  go_enter Try.func22, Try.ntmps22
  have hb : Below w.heap.size w ((w.alloc (.cells D.toArray 65)).alloc (.cells #[wl, ct] 67)) := ((Below.refl _ _).alloc (Nat.le_refl _) _).alloc (by simp) _
  have hc3 : ((w.alloc (.cells D.toArray 65)).alloc (.cells #[wl, ct] 67)).cell? ⟨h, 3, none⟩ = some (.map none) := hcell ((hb.block h hlt).trans hh) 3 rfl
  go_wp2
  refine bodyPost_ret (results_none rfl _ _ _) rfl ?_
  exact ⟨rfl, hb⟩

/-- One kept change. -/
structure Ent where
  e : Int
  D : List Value
  wl : Int
  ct : Int
  hd : Bool
def Ent.cells (x : Ent) : List Value := .int .u64 x.e :: (x.D ++ [.int .i64 x.wl, .int .u32 x.ct, .bool x.hd])
def flat (es : List Ent) : List Value := es.flatMap Ent.cells
def Goods (es : List Ent) : Prop := ∀ x ∈ es, Dev x.D

theorem Ent.length {x : Ent} (h : Dev x.D) : x.cells.length = 20 := by simp [Ent.cells, h.1]
theorem Ent.oneCell {x : Ent} (h : Dev x.D) : ∀ v ∈ x.cells, v.oneCell' = true := fun v hv => by
  simp only [Ent.cells, List.mem_cons, List.mem_append, List.not_mem_nil, or_false] at hv
  rcases hv with rfl | hv | rfl | rfl | rfl
  · rfl
  · exact h.oneCell v hv
  · rfl
  · rfl
  · rfl
theorem flat_length : ∀ {es : List Ent}, Goods es → (flat es).length = es.length * 20
  | [], _ => rfl
  | x :: es, h => by
    have h1 := flat_length (es := es) fun y hy => h y (by simp [hy])
    have h2 := Ent.length (h x (by simp))
    simp only [flat, List.flatMap_cons, List.length_append, List.length_cons] at h1 ⊢
    rw [h1, h2]
    omega
theorem flat_append (a b : List Ent) : flat (a ++ b) = flat a ++ flat b := by simp [flat]
theorem flat_drop : ∀ (g : Nat) {es : List Ent}, Goods es → (flat es).drop (g * 20) = flat (es.drop g)
  | 0, _, _ => by simp
  | g + 1, [], _ => by simp [flat]
  | g + 1, x :: es, h => by
    have h1 := flat_drop g (es := es) fun y hy => h y (by simp [hy])
    have h2 := Ent.length (h x (by simp))
    have e1 : flat (x :: es) = x.cells ++ flat es := rfl
    rw [e1, show (g + 1) * 20 = x.cells.length + g * 20 by omega, List.drop_append, Nat.add_sub_cancel_left, h1]
    simp
theorem flat_at {es : List Ent} (h : Goods es) {k : Nat} {x : Ent} (hx : es[k]? = some x) {j : Nat} (hj : j < 20) : (flat es)[k * 20 + j]? = x.cells[j]? := by
  have hk : k < es.length := (List.getElem?_eq_some_iff.1 hx).1
  have h1 := flat_drop k h
  have h2 : es.drop k = x :: es.drop (k + 1) := by
    rw [List.drop_eq_getElem_cons hk]
    rw [List.getElem?_eq_getElem hk] at hx
    rw [Option.some.inj hx]
  rw [h2] at h1
  have h3 : ((flat es).drop (k * 20))[j]? = x.cells[j]? := by
    rw [h1]
    have h4 : j < x.cells.length := by rw [Ent.length (h x (List.mem_of_getElem? hx))]; exact hj
    show (x.cells ++ flat _)[j]? = _
    rw [List.getElem?_append_left h4]
  rwa [List.getElem?_drop] at h3
theorem Goods.app {es : List Ent} {x : Ent} (h : Goods es) (hx : Dev x.D) : Goods (es ++ [x]) := fun y hy => by
  rcases List.mem_append.1 hy with hy | hy
  · exact h y hy
  · obtain rfl : y = x := by simpa using hy
    exact hx
theorem Goods.drop {es : List Ent} (h : Goods es) (g : Nat) : Goods (es.drop g) := fun y hy => h y (List.mem_of_mem_drop hy)

/-- The struct a 'build' lays. -/
theorem built67 (wl ct : Int) : Try.prog.built 67 [(0, .int .i64 wl), (1, .int .u32 ct)] = some #[.int .i64 wl, .int .u32 ct] := by kernel_rfl
theorem list16 {D : List Value} (h : D.length = 16) : ∃ a0 a1 a2 a3 a4 a5 a6 a7 a8 a9 a10 a11 a12 a13 a14 a15, D = [a0, a1, a2, a3, a4, a5, a6, a7, a8, a9, a10, a11, a12, a13, a14, a15] := by
  match D, h with
  | [a0, a1, a2, a3, a4, a5, a6, a7, a8, a9, a10, a11, a12, a13, a14, a15], _ => exact ⟨_, _, _, _, _, _, _, _, _, _, _, _, _, _, _, _, rfl⟩
theorem built73 (x : Ent) (h : Dev x.D) : Try.prog.built 73 [(0, .int .u64 x.e), (1, .agg x.D.toArray), (2, .agg #[.int .i64 x.wl, .int .u32 x.ct]), (3, .bool x.hd)] = some x.cells.toArray := by
  obtain ⟨e, D, wl, ct, hd⟩ := x
  have hl : D.length = 16 := h.1
  obtain ⟨a0, a1, a2, a3, a4, a5, a6, a7, a8, a9, a10, a11, a12, a13, a14, a15, rfl⟩ := list16 hl
  clear h hl
  show Try.prog.built 73 [(0, .int .u64 e), (1, .agg #[a0, a1, a2, a3, a4, a5, a6, a7, a8, a9, a10, a11, a12, a13, a14, a15]), (2, .agg #[.int .i64 wl, .int .u32 ct]), (3, .bool hd)] = some #[.int .u64 e, a0, a1, a2, a3, a4, a5, a6, a7, a8, a9, a10, a11, a12, a13, a14, a15, .int .i64 wl, .int .u32 ct, .bool hd]
  kernel_rfl
end Go.Proofs.Qxb6603893a
