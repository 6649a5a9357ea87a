/-
  'zzViewSame': two views of one history's content are the same.
-/
import Derived.Test.Qxb6603893aRead
namespace Go.Proofs.Qxb6603893a
open Go.RowKit Go.Maps
set_option linter.unusedVariables false

theorem key34 {D : List Value} (h : Dev D) : keyOf Try.prog 34 (.agg D.toArray) = keyOf Try.prog 65 (.agg D.toArray) := by
  have a1 : Try.prog.keyType 34 = Try.prog.keyType 65 := by kernel_rfl
  have a2 : Try.prog.cellsOf 34 = Try.prog.cellsOf 65 := by kernel_rfl
  unfold keyOf
  rw [Try.underlying34, Try.underlying65]
  simp only [a1, Value.formed, Try.underlying34, Try.underlying65, a2, Program.keyLits]
theorem eq34 (w : World) {D : List Value} (h : Dev D) : (Op.equal 34 (.agg D.toArray) (.agg D.toArray)).run Try.prog w = .ok true w := by
  obtain ⟨r, h1, h2⟩ := run_equal_deep (P := Try.prog) w (m := 3) (by omega) (k := 34) (by kernel_rfl) (by kernel_rfl) ((key34 h).trans h.hkey) ((key34 h).trans h.hkey)
  rw [h1, h2.2 rfl]
theorem neq34 (w : World) {D : List Value} (h : Dev D) (x y : Operand) : ((do eqGuard .neq 34 x y (.agg D.toArray) (.agg D.toArray); binOp .neq 34 (.agg D.toArray) (.agg D.toArray)) : Sem Value).run Try.prog w = .ok (.bool false) w := by
  have hg : Try.prog.eqGuardType Try.prog.depth 34 = false := by kernel_rfl
  have he := eq34 w h
  simp [eqGuard, binOp, hg, he, go_sem]

theorem quiet_binop {P : Program} {C : World → Prop} {o : Oper} {a : Act} {K : Act → Prop} (op : BinOp) (t : TypeId) (x y : Operand) (t2 : TypeId) (ho : o.op = .binOp op t x y t2) (v : Value)
    (hv : ∀ w, C w → ((do eqGuard op t x y (a.eval x) (a.eval y); binOp op t (a.eval x) (a.eval y)) : Sem Value).run P w = .ok v w) (hk : K (a.put o.dst v)) : o.quiet P a C K :=
  quiet_run (fun w hw => by
    have := hv w hw
    unfold execOp
    simp only [ho]
    rw [Sem.run_bind, this]
    rfl) hk

set_option maxHeartbeats 400000 in
theorem lens20 (e : Int) (mk : Bool) (B0 B1 B2 B3 B4 n : Nat) (ln : Bool) (ll old lim : Int) (w : World) (hn : n ≤ 2000000) :
    Calls Try.prog 20 #[.agg (view e mk B0 B1 B2 B3 B4 n ln ll old lim), .int .i64 n] w fun ex w' => ex = .returned (.bool true) ∧ Below w.heap.size w w' := by
  have hb : Below w.heap.size w (w.alloc (.cells (view e mk B0 B1 B2 B3 B4 n ln ll old lim) 44)) := (Below.refl _ _).alloc (Nat.le_refl _) _
  have HB := hide hb
  clear hb
  unfold view at HB ⊢
  go_enter Try.func20, Try.ntmps20
  go_wp2
  go_ret
  exact ⟨rfl, HB.out⟩
end Go.Proofs.Qxb6603893a
