/-
  The script's small readers.
-/
import Derived.Test.Qxb6603893aNote
namespace Go.Proofs.Qxb6603893a
open Go.RowKit Go.Maps
set_option linter.unusedVariables false

/-- One-cell values in the caller's memory. -/
def CellsAt (w : World) (a : Option Addr) (vs : List Value) : Prop :=
  vs ≠ [] → ∃ b off, a = some ⟨b, off, none⟩ ∧ b < w.heap.size ∧ ∀ (k : Nat) (v : Value), vs[k]? = some v → w.cell? ⟨b, off + k, none⟩ = some v
theorem CellsAt.next {w w' : World} {a : Option Addr} {vs : List Value} (h : CellsAt w a vs) (hb : Below w.heap.size w w') : CellsAt w' a vs := fun hne => by
  obtain ⟨b, off, h1, h2, h3⟩ := h hne
  exact ⟨b, off, h1, Nat.lt_of_lt_of_le h2 hb.size, fun k v hv => (hb.cell h2).trans (h3 k v hv)⟩

set_option maxHeartbeats 400000 in
theorem boolAt16 (w : World) (a : Option Addr) (c j : Nat) (bs : List Bool) (h : CellsAt w a (bs.map Value.bool)) (hn : bs.length ≤ 2000000) (hj : j ≤ 2000000) :
    Calls Try.prog 16 #[.slice a bs.length c, .int .i64 j] w fun e w' => e = .returned (.bool (bs.getD j false)) ∧ w = w' := by
  by_cases hlt : j < bs.length
  · obtain ⟨b, off, rfl, _, h3⟩ := h (fun e => by have : bs = [] := by simpa using e
                                                  rw [this] at hlt
                                                  cases hlt)
    have hc := h3 j (.bool (bs.getD j false)) (by rw [List.getElem?_map, List.getElem?_eq_getElem hlt, List.getD_eq_getElem?_getD, List.getElem?_eq_getElem hlt]; rfl)
    clear h h3
    generalize bs.getD j false = r at hc ⊢
    go_enter Try.func16, Try.ntmps16
    go_wp2
    go_ret
    exact ⟨rfl, rfl⟩
  · have hr : bs.getD j false = false := by rw [List.getD_eq_getElem?_getD, List.getElem?_eq_none (by omega)]; rfl
    rw [hr]
    clear h
    go_enter Try.func16, Try.ntmps16
    go_wp2
    go_ret
    exact ⟨rfl, rfl⟩

set_option maxHeartbeats 400000 in
theorem wallAt18 (w : World) (a : Option Addr) (c j : Nat) (bs : List Int) (h : CellsAt w a (bs.map (Value.int .i64))) (hn : bs.length ≤ 2000000) (hj : j ≤ 2000000) :
    Calls Try.prog 18 #[.slice a bs.length c, .int .i64 j] w fun e w' => e = .returned (.int .i64 (bs.getD j 0)) ∧ w = w' := by
  by_cases hlt : j < bs.length
  · obtain ⟨b, off, rfl, _, h3⟩ := h (fun e => by have : bs = [] := by simpa using e
                                                  rw [this] at hlt
                                                  cases hlt)
    have hc := h3 j (.int .i64 (bs.getD j 0)) (by rw [List.getElem?_map, List.getElem?_eq_getElem hlt, List.getD_eq_getElem?_getD, List.getElem?_eq_getElem hlt]; rfl)
    clear h h3
    generalize bs.getD j 0 = r at hc ⊢
    go_enter Try.func18, Try.ntmps18
    go_wp2
    go_ret
    exact ⟨rfl, rfl⟩
  · have hr : bs.getD j 0 = 0 := by rw [List.getD_eq_getElem?_getD, List.getElem?_eq_none (by omega)]; rfl
    rw [hr]
    clear h
    go_enter Try.func18, Try.ntmps18
    go_wp2
    go_ret
    exact ⟨rfl, rfl⟩

set_option maxHeartbeats 400000 in
theorem countAt19 (w : World) (a : Option Addr) (c j : Nat) (bs : List Int) (h : CellsAt w a (bs.map (Value.int .u32))) (hn : bs.length ≤ 2000000) (hj : j ≤ 2000000) :
    Calls Try.prog 19 #[.slice a bs.length c, .int .i64 j] w fun e w' => e = .returned (.int .u32 (bs.getD j 0)) ∧ w = w' := by
  by_cases hlt : j < bs.length
  · obtain ⟨b, off, rfl, _, h3⟩ := h (fun e => by have : bs = [] := by simpa using e
                                                  rw [this] at hlt
                                                  cases hlt)
    have hc := h3 j (.int .u32 (bs.getD j 0)) (by rw [List.getElem?_map, List.getElem?_eq_getElem hlt, List.getD_eq_getElem?_getD, List.getElem?_eq_getElem hlt]; rfl)
    clear h h3
    generalize bs.getD j 0 = r at hc ⊢
    go_enter Try.func19, Try.ntmps19
    go_wp2
    go_ret
    exact ⟨rfl, rfl⟩
  · have hr : bs.getD j 0 = 0 := by rw [List.getD_eq_getElem?_getD, List.getElem?_eq_none (by omega)]; rfl
    rw [hr]
    clear h
    go_enter Try.func19, Try.ntmps19
    go_wp2
    go_ret
    exact ⟨rfl, rfl⟩

set_option maxHeartbeats 400000 in
theorem mark17 (w : World) (h : Nat) (c0 c1 c2 c3 c4 c5 : Value) (hh : w.heap[h]? = some (.cells #[c0, c1, c2, c3, c4, c5] 71 (0, 0))) :
    Calls Try.prog 17 #[.pointer (some ⟨h, 0, none⟩)] w fun e w' => e = .returned (.tuple #[]) ∧ w' = w.setCell ⟨h, 1, none⟩ (.bool true) := by
  have hc1 : w.cell? ⟨h, 1, none⟩ = some c1 := hcell hh 1 rfl
  have hf1 : w.frozen? ⟨h, 1, none⟩ = false := by simp [World.frozen?, hh]
  have hlt := lt_of_heap hh
  go_enter Try.func17, Try.ntmps17
  go_wp2
  go_end0
  exact ⟨rfl, rfl⟩
end Go.Proofs.Qxb6603893a
