/-
  Devices: arrays of sixteen bytes, as values and as keys of a map; loads of many cells.
-/
import Derived.Test.Qxb6603893aMixed
import Derived.Deep.MidRow
import Derived.Maps.OwnSet
import Derived.DeepKeys4
import Derived.Below
namespace Go.Proofs.Qxb6603893a
open Go.RowKit Go.Maps
set_option linter.unusedVariables false

theorem hide {p : Prop} (h : p) : Hid p := h
theorem Below.drewN {B : Nat} {a w : World} (h : Below B a w) (n : Nat) : Below B a (w.drewN n) := ⟨h.os, h.tape, h.output, h.size, h.block⟩

theorem laidOutD : laidOutB Try.prog = true := by kernel_rfl
theorem law65 : Keyed Try.prog 65 := Keyed.of_law (deep_law_laid laidOutD (m := 3) (by omega) (of_decide_eq_true (by kernel_rfl)) (by kernel_rfl) (by kernel_rfl))

/-- Sixteen bytes. -/
def Dev (D : List Value) : Prop := D.length = 16 ∧ ∀ v ∈ D, ∃ n, v = .int .u8 n ∧ (Lit.int .u8 n).wf = true

theorem mapM_some {α β : Type} (f : α → Option β) : ∀ (l : List α), (∀ x ∈ l, ∃ y, f x = some y) → ∃ ys, l.mapM f = some ys
  | [], _ => ⟨[], rfl⟩
  | x :: l, h => by
    obtain ⟨y, hy⟩ := h x (by simp)
    obtain ⟨ys, hys⟩ := mapM_some f l fun z hz => h z (by simp [hz])
    exact ⟨y :: ys, by simp [List.mapM_cons, hy, hys]⟩

theorem Dev.key {D : List Value} (h : Dev D) : ∃ k, keyOf Try.prog 65 (.agg D.toArray) = some k := by
  have h1 : Try.prog.keyType 65 = true := by kernel_rfl
  have h2 : Try.prog.cellsOf 65 = 16 := by kernel_rfl
  have h3 : Try.prog.cellsOf 5 = 1 := by kernel_rfl
  have hf : (Value.agg D.toArray).formed Try.prog 65 = true := by simp [Value.formed, Try.underlying65, h2, h.1]
  have hs : ∃ d, Try.prog.types.size = d + 1 := ⟨Try.prog.types.size - 1, by have : 0 < Try.prog.types.size := of_decide_eq_true (by kernel_rfl); omega⟩
  obtain ⟨d, hd⟩ := hs
  have hm : ∃ ls, (List.range 16).mapM (fun i => Try.prog.keyLits (d + 1) 5 ((D.drop (i * 1)).take 1)) = some ls := by
    refine mapM_some _ _ fun i hi => ?_
    have hi' : i < D.length := by rw [h.1]; exact List.mem_range.1 hi
    obtain ⟨n, hn, hw⟩ := h.2 _ (List.getElem_mem hi')
    refine ⟨[.int .u8 n], ?_⟩
    rw [Nat.mul_one, List.drop_eq_getElem_cons hi', hn]
    simp [Program.keyLits, Try.underlying5, hw]
  obtain ⟨ls, hls⟩ := hm
  refine ⟨.string (keyBytes ls.flatten), ?_⟩
  unfold keyOf
  rw [Try.underlying65]
  simp only [h1, hf, Bool.and_self, if_true, Value.cells, Program.keyLits, Try.underlying65, h2, h.1, h3]
  rw [hd, hls]
  rfl

noncomputable def kl (D : List Value) : Lit := (keyOf Try.prog 65 (.agg D.toArray)).getD (.bool false)
theorem Dev.hkey {D : List Value} (h : Dev D) : keyOf Try.prog 65 (.agg D.toArray) = some (kl D) := by
  obtain ⟨k, hk⟩ := h.key
  simp [kl, hk]
theorem Dev.oneCell {D : List Value} (h : Dev D) : ∀ v ∈ D, v.oneCell' = true := fun v hv => by
  obtain ⟨n, rfl, _⟩ := h.2 v hv
  rfl

theorem size34 : (Try.prog.info? 34).map (·.size) = some 16 := by kernel_rfl
theorem size65 : (Try.prog.info? 65).map (·.size) = some 16 := by kernel_rfl
theorem size67 : (Try.prog.info? 67).map (·.size) = some 2 := by kernel_rfl
theorem size73 : (Try.prog.info? 73).map (·.size) = some 20 := by kernel_rfl
theorem size63 : (Try.prog.info? 63).map (·.size) = some 20 := by kernel_rfl
theorem zero28 (w : World) : (zeroValue 28).run Try.prog w = .ok (.int .u64 0) w := by
  have : (Try.prog.info? 28).map (·.zero) = some (some (.int .u64 0)) := by kernel_rfl
  cases hi : Try.prog.info? 28 with
  | none => simp [hi] at this
  | some i => simp [hi] at this; simp [zeroValue, typeInfo, hi, this]

/-- The cells of a struct, read one by one. -/
theorem hcell {w : World} {h : Nat} {c : Array Value} {t : TypeId} {fr : Nat × Nat} (hh : w.heap[h]? = some (.cells c t fr)) (i : Nat) {v : Value} (hv : c[i]? = some v) : w.cell? ⟨h, i, none⟩ = some v := by
  rw [cell_of_row w h i c t fr hh, hv]
theorem lt_of_heap {w : World} {b : Nat} {o : Obj} (h : w.heap[b]? = some o) : b < w.heap.size := (Array.getElem?_eq_some_iff.1 h).1

theorem rangeAt_block {w : World} {b : Nat} {D : List Value} {t : TypeId} {fr : Nat × Nat} (h : w.heap[b]? = some (.cells D.toArray t fr)) : w.rangeAt b 0 D := fun j v hv => by
  rw [Nat.zero_add, cell_of_row w b j D.toArray t fr h]
  simpa using hv

theorem load34 {w : World} {b : Nat} {D : List Value} {t : TypeId} {fr : Nat × Nat} (h : w.heap[b]? = some (.cells D.toArray t fr)) (hD : D.length = 16) :
    (Instr.loadAt 34 (.pointer (some ⟨b, 0, none⟩))).run Try.prog w = .ok (.agg D.toArray) w :=
  run_loadAt_mid w b 0 34 D _ (rangeAt_block h) Try.underlying34 rfl (by rw [hD]; exact size34)
theorem load65 {w : World} {b : Nat} {D : List Value} {t : TypeId} {fr : Nat × Nat} (h : w.heap[b]? = some (.cells D.toArray t fr)) (hD : D.length = 16) :
    (Instr.loadAt 65 (.pointer (some ⟨b, 0, none⟩))).run Try.prog w = .ok (.agg D.toArray) w :=
  run_loadAt_mid w b 0 65 D _ (rangeAt_block h) Try.underlying65 rfl (by rw [hD]; exact size65)
theorem lv34 {w : World} {b : Nat} {D : List Value} {t : TypeId} {fr : Nat × Nat} (h : w.heap[b]? = some (.cells D.toArray t fr)) (hD : D.length = 16) :
    (loadVar 34 ⟨b, 0, none⟩).run Try.prog w = .ok (.agg D.toArray) w :=
  run_loadVar_mid w b 0 34 D _ (rangeAt_block h) Try.underlying34 rfl (by rw [hD]; exact size34)
theorem lv65 {w : World} {b : Nat} {D : List Value} {t : TypeId} {fr : Nat × Nat} (h : w.heap[b]? = some (.cells D.toArray t fr)) (hD : D.length = 16) :
    (loadVar 65 ⟨b, 0, none⟩).run Try.prog w = .ok (.agg D.toArray) w :=
  run_loadVar_mid w b 0 65 D _ (rangeAt_block h) Try.underlying65 rfl (by rw [hD]; exact size65)
end Go.Proofs.Qxb6603893a
