import Derived.Test.Qxb6603893aNote2
namespace Go.Proofs.Qxb6603893a
open Go.RowKit Go.Maps
set_option linter.unusedVariables false


set_option maxHeartbeats 400000 in
theorem zznote10 {h : Nat} {D : List Value} {wl ct : Int} {hd : Bool} {w : World} {Φ : Ending → World → Prop} (hD : Dev D)
    (hc : Calls Try.prog 22 #[.pointer (some ⟨h, 0, none⟩), .agg D.toArray, .agg #[.int .i64 wl, .int .u32 ct], .bool hd] (w.alloc (.cells D.toArray 34)) fun ex w' => ex = .returned (.tuple #[]) ∧ Φ (.returned (.tuple #[])) w') :
    Calls Try.prog 10 #[.pointer (some ⟨h, 0, none⟩), .agg D.toArray, .int .i64 wl, .int .u32 ct, .bool hd] w fun ex w' => ex = .returned (.tuple #[]) ∧ Φ (.returned (.tuple #[])) w' := by
  have HR : Hid ((w.alloc (.cells D.toArray 34)).rangeAt w.heap.size 0 D) := rangeAt_block (heap_alloc_new w _)
  have HS : Hid ((Try.prog.info? 34).map (·.size) = some D.length) := by rw [hD.1]; exact size34
  go_enter Try.func10, Try.ntmps10
  go_wp2_with (first
    | (show wpList _ _ _ (Oper.mk _ (Op.load 34 (.tmp 6)) _ _ _ _ :: _) _ _; refine wpList_load_mid rfl 34 (.tmp 6) rfl w.heap.size 0 rfl D _ HR.out Try.underlying34 rfl HS.out ?_)
    | (go_at_call 22; refine hc.mono ?_; rintro e w' ⟨rfl, hΦ⟩))
  go_end0
  exact ⟨rfl, hΦ⟩
end Go.Proofs.Qxb6603893a
