import Derived.Test.Qxb6600487aFieldLaw
import Derived.Test.Qxb6600487aRuns
import Derived.Maps.AppendAt
namespace Go.Proofs.Qxb6600487a
open Go.RowKit
set_option linter.unusedVariables false

theorem Try.info3 : (Try.prog.info? 3).map (fun i => (i.zero, i.size, i.bytes)) = some (some (.int .i64 0), 1, 8) := by kernel_rfl

/-- Two rows of ints of the call's own, each in a block of its own, from block B on; below B nothing has turned. -/
structure Two (B : Nat) (w wr : World) (v3 v4 : Value) (A C : List Int) : Prop where
  left : wr.ownsRow B 3 1 v3 A.length (A.map (Value.int .i64))
  right : wr.ownsRow B 3 1 v4 C.length (C.map (Value.int .i64))
  ne : v3.ownBlock ≠ v4.ownBlock
  nl : v3.ownBlock ≠ none
  nr : v4.ownBlock ≠ none
  below : Below B w wr
  size : B ≤ wr.heap.size

theorem Two.onLeft {B : Nat} {w wr w' : World} {v3 v4 v' : Value} {A C : List Int} {o : Obj} {x : Int} (h : Two B w wr v3 v4 A C)
    (hown : w'.ownsRow B 3 1 v' (A.length + 1) (A.map (Value.int .i64) ++ [.int .i64 x])) (hgrow : (wr.alloc o).grownBy w' v3.ownBlock)
    (hloc : v'.ownBlock = v3.ownBlock ∨ v'.ownBlock = some (wr.alloc o).heap.size) : Two B w w' v' v4 (A ++ [x]) C where
  left := by simpa using hown
  right := (h.right.alloc o).kept hgrow (Or.inr fun e => h.ne e.symm)
  ne := by
    rcases hloc with e | e
    · rw [e]; exact h.ne
    · rw [e]
      intro e2
      have := (h.right.lt _ e2.symm).2
      simp at this
      omega
  nl := by rcases hloc with e | e <;> rw [e]; exact h.nl; simp
  nr := h.nr
  below := (h.below.alloc h.size o).grown hgrow (by simp; have := h.size; omega) (fun k e => (h.left.lt k e).1)
  size := Nat.le_trans h.size (Nat.le_trans (by simp) hgrow.size)

theorem Two.onRight {B : Nat} {w wr w' : World} {v3 v4 v' : Value} {A C : List Int} {o : Obj} {x : Int} (h : Two B w wr v3 v4 A C)
    (hown : w'.ownsRow B 3 1 v' (C.length + 1) (C.map (Value.int .i64) ++ [.int .i64 x])) (hgrow : (wr.alloc o).grownBy w' v4.ownBlock)
    (hloc : v'.ownBlock = v4.ownBlock ∨ v'.ownBlock = some (wr.alloc o).heap.size) : Two B w w' v3 v' A (C ++ [x]) where
  left := (h.left.alloc o).kept hgrow (Or.inr h.ne)
  right := by simpa using hown
  ne := by
    rcases hloc with e | e
    · rw [e]; exact h.ne
    · rw [e]
      intro e2
      have := (h.left.lt _ e2).2
      simp at this
      omega
  nl := h.nl
  nr := by rcases hloc with e | e <;> rw [e]; exact h.nr; simp
  below := (h.below.alloc h.size o).grown hgrow (by simp; have := h.size; omega) (fun k e => (h.right.lt k e).1)
  size := Nat.le_trans h.size (Nat.le_trans (by simp) hgrow.size)

/-- The shape of such a row, and its cells. -/
theorem own_shape {B : Nat} {wr : World} {v : Value} {A : List Int} (h : wr.ownsRow B 3 1 v A.length (A.map (Value.int .i64))) (hn : v.ownBlock ≠ none) :
    ∃ gs cS, v = .slice (some ⟨gs, 0, none⟩) A.length cS ∧ ∀ u, u < A.length → wr.cell? ⟨gs, u, none⟩ = some (.int .i64 (A.getD u 0)) := by
  have h0 := h
  rcases h.2 with ⟨rfl, _⟩ | ⟨gs, cS, cur, rfl, r⟩
  · exact absurd rfl hn
  · refine ⟨gs, cS, rfl, fun u hu => ?_⟩
    rw [h0.cellAt u (by omega), List.getElem?_map, List.getElem?_eq_getElem hu, List.getD_eq_getElem?_getD, List.getElem?_eq_getElem hu]
    rfl

set_option maxHeartbeats 400000 in
theorem bytes12_ok (a : Option Addr) (n cap : Nat) (w : World) (h : n ≤ 1048576) :
    Calls Try.prog 12 #[.slice a n cap] w fun e w' => e = .returned (.bool true) ∧ w = w' := by
  go_enter Try.func12, Try.ntmps12
  go_wp2
  go_ret
  exact ⟨rfl, rfl⟩

set_option maxHeartbeats 400000 in
theorem law4_big (a : Option Addr) (n cap : Nat) (w : World) (hm : n ≤ maxLen) (h : 4096 < n) :
    Calls Try.prog 4 #[.slice a n cap] w fun e w' => e = .returned (.bool true) ∧ w = w' := by
  unfold maxLen at hm
  by_cases hb : 1048576 < n
  all_goals
    go_enter Try.func4, Try.ntmps4
    go_wp2
    go_ret
    exact ⟨rfl, rfl⟩

theorem make0 (w : World) : (Instr.makeSlice 28 (.int .i64 0) (.int .i64 0)).run Try.prog w = .ok (.slice (some ⟨w.heap.size, 0, none⟩) 0 0) (w.alloc (.cells #[] 3)) := by kernel_rfl

set_option maxHeartbeats 400000 in
theorem law4_nil (w : World) :
    Calls Try.prog 4 #[.slice none 0 0] w fun e w' => e = .returned (.bool true) ∧ Below w.heap.size w w' := by
  have hnil := nil_eql
  have hmk := make0
  go_enter Try.func4, Try.ntmps4
  go_wp2_with (first | (go_at_call 12; refine (bytes12_ok _ _ _ _ (by omega)).mono ?_; rintro e w' ⟨rfl, rfl⟩) | (go_at_call 9; refine (clone_nil _).mono ?_; rintro e w' ⟨rfl, rfl⟩))
  refine wp_loop_rounds 1 ?_
  rw [rounds_succ]
  go_wp2
  refine wp_loop_rounds 1 ?_
  rw [rounds_succ]
  go_wp2_with (first | (go_at_call 10; refine (zfield_nil _).mono ?_; rintro e w' ⟨rfl, rfl⟩))
  go_ret
  exact ⟨rfl, ((Below.refl _ _).alloc (Nat.le_refl _) _).alloc (by simp) _⟩

set_option maxHeartbeats 400000 in
theorem zfield_empty (a : Option Addr) (c : Nat) (w : World) :
    Calls Try.prog 10 #[.slice a 0 c] w fun e w' => e = .returned (.tuple #[.slice none 0 0, .slice none 0 0]) ∧ w = w' := by
  go_enter Try.func10, Try.ntmps10
  go_wp2
  refine wp_loop_rounds 1 ?_
  rw [rounds_succ]
  go_wp2
  refine wp_loop_rounds 1 ?_
  rw [rounds_succ]
  go_wp2
  go_ret2
  exact ⟨rfl, rfl⟩

/-- What the second half of the law reads: the copy's bytes, the two lists; nothing old has turned. -/
structure Mem (w : World) (g n gs ge : Nat) (X : Nat → Int) (A C : List Int) (wr : World) : Prop where
  bytes : ∀ j, j < n → wr.cell? ⟨g, j, none⟩ = some (.int .u8 (X j))
  left : ∀ u, u < A.length → wr.cell? ⟨gs, u, none⟩ = some (.int .i64 (A.getD u 0))
  right : ∀ u, u < C.length → wr.cell? ⟨ge, u, none⟩ = some (.int .i64 (C.getD u 0))
  below : Below g w wr
theorem Mem.drewN {w : World} {g n gs ge : Nat} {X : Nat → Int} {A C : List Int} {wr : World} (h : Mem w g n gs ge X A C wr) (q : Nat) : Mem w g n gs ge X A C (wr.drewN q) :=
  ⟨h.bytes, h.left, h.right, below_drewN h.below q⟩

theorem getD_of {A : List Int} {t : Nat} {x : Int} (h : A[t]? = some x) : t < A.length ∧ A.getD t 0 = x :=
  ⟨(List.getElem?_eq_some_iff.1 h).1, by rw [List.getD_eq_getElem?_getD, h]; rfl⟩
end Go.Proofs.Qxb6600487a
