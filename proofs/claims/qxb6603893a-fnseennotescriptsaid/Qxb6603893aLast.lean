import Derived.Test.Qxb6603893aDev
import Derived.WalkKit
namespace Go.Proofs.Qxb6603893a
open Go.RowKit Go.Maps
set_option linter.unusedVariables false

set_option maxHeartbeats 400000 in
theorem last12 (h : Nat) (c0 c1 c2 mv c4 c5 : Value) (D : List Value) (w : World) (hh : w.heap[h]? = some (.cells #[c0, c1, c2, mv, c4, c5] 71 (0, 0))) (hD : Dev D) (r : Int) (ok : Bool)
    (hl : ∀ w' : World, (∀ k, k < w.heap.size → w'.heap[k]? = w.heap[k]?) → (Instr.lookup 69 mv (.agg D.toArray) true).run Try.prog w' = .ok (.tuple #[.int .u64 r, .bool ok]) w') :
    Calls Try.prog 12 #[.pointer (some ⟨h, 0, none⟩), .agg D.toArray] w fun e w' => e = .returned (.tuple #[.int .u64 r, .bool ok]) ∧ Below w.heap.size w w' := by
  have hlt : h < w.heap.size := by
    obtain ⟨h', _⟩ := Array.getElem?_eq_some_iff.1 hh
    exact h'
  go_enter Try.func12, Try.ntmps12
  go_wp2_with fail
  have hb : Below w.heap.size w (w.alloc (.cells D.toArray 34)) := (Below.refl _ _).alloc (Nat.le_refl _) _
  have hc3 : (w.alloc (.cells D.toArray 34)).cell? ⟨h, 3, none⟩ = some mv := hcell ((Below.heap_alloc _ _ h hlt).trans hh) 3 rfl
  have h34 : ∀ n, (Instr.loadAt 34 (.pointer (some ⟨w.heap.size, 0, none⟩))).run Try.prog ((w.alloc (.cells D.toArray 34)).drewN n) = .ok (.agg D.toArray) ((w.alloc (.cells D.toArray 34)).drewN n) :=
    fun n => load34 (w := (w.alloc (.cells D.toArray 34)).drewN n) (heap_alloc_new w _) hD.1
  have hlk : ∀ n, (Instr.lookup 69 mv (.agg D.toArray) true).run Try.prog ((w.alloc (.cells D.toArray 34)).drewN n) = .ok (.tuple #[.int .u64 r, .bool ok]) ((w.alloc (.cells D.toArray 34)).drewN n) :=
    fun n => hl _ fun k hk => Below.heap_alloc _ _ k hk
  generalize w.alloc (.cells D.toArray 34) = w1 at hb hc3 h34 hlk ⊢
  have HB := hide hb
  clear hb hh hl hD hlt
  refine wp_region_quiet_lit (by kernel_rfl) (by kernel_rfl) ?_
  iterate 4 (go_big_quiet_step (fail))
  refine wpQuiet_by rfl fun K hK => quiet_load 34 (.tmp 3) rfl (.agg D.toArray) (by rintro _ ⟨n, rfl⟩; exact h34 n) (hK _ ?_)
  simp only [Act.put, List.setIfInBounds_toArray, List.set_cons_succ, List.set_cons_zero]
  clear hK K
  refine wpQuiet_by rfl fun K hK => quiet_lookup 69 (.tmp 12) (.tmp 13) true rfl (.tuple #[.int .u64 r, .bool ok]) (by rintro _ ⟨n, rfl⟩; exact hlk n) (hK _ ?_)
  simp only [Act.put, List.setIfInBounds_toArray, List.set_cons_succ, List.set_cons_zero]
  clear hK K
  repeat (go_big_quiet_step (fail))
  refine wpQuiet_nil ?_
  intro _ hw'
  obtain ⟨nq, rfl⟩ := hw'
  go_wp2
  go_ret2
  exact ⟨rfl, Below.drewN HB.out nq⟩
end Go.Proofs.Qxb6603893a
