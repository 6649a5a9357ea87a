import Derived.Test.Qxb6603893aNote
namespace Go.Proofs.Qxb6603893a
open Go.RowKit Go.Maps
set_option linter.unusedVariables false

theorem wrap_mid (Q : Int) (h0 : 0 ≤ Q) (h1 : Q < 1000000000000) : IntKind.i64.wrap Q = Q := by
  simp [IntKind.wrap, IntKind.bits, IntKind.signed]
  split <;> omega
theorem run_add_gen (x y Q : Int) (hQ : Q = x + y) (h0 : 0 ≤ Q) (h1 : Q < 1000000000000) (w : World) : (binOp .add 3 (.int .i64 x) (.int .i64 y)).run Try.prog w = .ok (.int .i64 Q) w := by
  have e : (binOp .add 3 (.int .i64 x) (.int .i64 y)).run Try.prog w = .ok (.int .i64 (IntKind.i64.wrap (x + y))) w := by
    simp [binOp, Op.intArith]
  rw [e, ← hQ, wrap_mid Q h0 h1]

theorem wpList_addc (w : World) {ops : Array Oper} {rest : List Oper} {o : Oper} {a : Act} {Q : Exit → Act → World → Prop} (c : Int) (t : Nat)
    (hop : o.op = Op.binOp BinOp.add 3 (.tmp t) (.const (.int .i64 c)) 3) (hw : Region.wanted o (yielded ops a.tmps) = true) (x q : Int) (hx : a.eval (.tmp t) = .int .i64 x)
    (hrun : ∀ w, (binOp .add 3 (.int .i64 x) (.int .i64 c)).run Try.prog w = .ok (.int .i64 q) w)
    (h : wpList Try.prog ops Q rest (a.put o.dst (.int .i64 q)) w) : wpList Try.prog ops Q (o :: rest) a w := by
  refine BigFrame.wpList_want hw fun K hK => ?_
  have e : execOp a.eval o = (do pure (Next.value (← binOp .add 3 (.int .i64 x) (.int .i64 c)))) := by
    simp only [execOp, hop, hx]
    rfl
  unfold Oper.wp
  rw [e]
  simp only [Sem.run_bind, hrun, Result.andThen, Sem.run_pure, Oper.upon_value]
  exact hK _ _ h

set_option maxRecDepth 100000 in
set_option maxHeartbeats 2000000 in
theorem bytes8 (e : Int) (mk : Bool) (ca : Option Addr) (cn cc : Nat) (ln : Bool) (ka va : Option Addr) (kn kc vn vc : Nat) (old lim : Int) (D : List Value) (wl1 ct1 wl2 ct2 : Int) (hd1 hd2 : Bool) (w : World) (h1 : cn ≤ maxLen) (h2 : kn ≤ maxLen) (h3 : vn ≤ maxLen) :
    Calls Try.prog 8 #[.agg #[.int .u64 e, .bool mk, .slice ca cn cc, .bool ln, .slice ka kn kc, .slice va vn vc, .int .u64 old, .int .i64 lim], .agg D.toArray, .int .i64 wl1, .int .u32 ct1, .bool hd1, .int .i64 wl2, .int .u32 ct2, .bool hd2] w fun ex w' => (ex = .returned (.bool true) ∨ ex = .returned (.bool false)) ∧ Below w.heap.size w w' := by
  unfold maxLen at h1 h2 h3
  have HB : Hid (Below w.heap.size w ((w.alloc (.cells #[.int .u64 e, .bool mk, .slice ca cn cc, .bool ln, .slice ka kn kc, .slice va vn vc, .int .u64 old, .int .i64 lim] 33)).alloc (.cells D.toArray 34))) := ((Below.refl _ _).alloc (Nat.le_refl _) _).alloc (by simp) _
  go_enter Try.func8, Try.ntmps8
  by_cases hc : 1048576 < cn
  · go_wp2
    go_ret
    exact ⟨.inr rfl, HB.out⟩
  go_wp2_with fail
  go_loop [17, 18] (fun z q => ∃ i t : Nat, z = .int .i64 t ∧ q = .int .i64 i ∧ i ≤ cn ∧ t ≤ 1048576) (fun _ q => cn - (intOf q).toNat)
  case atStart => exact ⟨0, cn, rfl, rfl, Nat.zero_le _, by omega⟩
  case round =>
    obtain ⟨i, t, rfl, rfl, hi, ht⟩ := hrel
    by_cases hlt : i < cn
    · obtain ⟨p, hp⟩ : ∃ p : Nat, (p : Int) = (t : Int) + 16 := ⟨t + 16, by omega⟩
      have hadd := run_add_gen t 16 p hp (by omega) (by omega)
      have hpb : p ≤ 2000000 := by omega
      clear hp
      by_cases ht2 : 1048576 < p
      · go_wp2_with (refine wpList_addc _ 16 38 rfl rfl t p rfl hadd ?_)
        go_ret
        exact ⟨.inr rfl, HB.out⟩
      · go_wp2_with (refine wpList_addc _ 16 38 rfl rfl t p rfl hadd ?_)
        go_round
        case rel => exact ⟨i + 1, p, by go_num, by go_num, by omega, by omega⟩
        case measure => simp [intOf]; omega
    · obtain rfl : i = cn := by omega
      by_cases hk : 1048576 < kn
      · go_wp2
        go_ret
        exact ⟨.inr rfl, HB.out⟩
      by_cases hk2 : 1048576 < t + kn
      · go_wp2
        go_ret
        exact ⟨.inr rfl, HB.out⟩
      go_wp2_with fail
      go_loop [17, 19] (fun z q => ∃ i t : Nat, z = .int .i64 t ∧ q = .int .i64 i ∧ i ≤ kn ∧ t ≤ 1048576) (fun _ q => kn - (intOf q).toNat)
      case atStart => exact ⟨0, t + kn, by go_num, rfl, Nat.zero_le _, by omega⟩
      case round =>
        obtain ⟨j, t', rfl, rfl, hj, ht'⟩ := hrel
        by_cases hlt' : j < kn
        · obtain ⟨p, hp⟩ : ∃ p : Nat, (p : Int) = (t' : Int) + 16 := ⟨t' + 16, by omega⟩
          have hadd := run_add_gen t' 16 p hp (by omega) (by omega)
          have hpb : p ≤ 2000000 := by omega
          clear hp
          by_cases ht2 : 1048576 < p
          · go_wp2_with (refine wpList_addc _ 16 60 rfl rfl t' p rfl hadd ?_)
            go_ret
            exact ⟨.inr rfl, HB.out⟩
          · go_wp2_with (refine wpList_addc _ 16 60 rfl rfl t' p rfl hadd ?_)
            go_round
            case rel => exact ⟨j + 1, p, by go_num, by go_num, by omega, by omega⟩
            case measure => simp [intOf]; omega
        · obtain rfl : j = kn := by omega
          by_cases hv : 1048576 < vn
          · go_wp2
            go_ret
            exact ⟨.inr rfl, HB.out⟩
          by_cases hv2 : 1048576 < t' + vn
          · go_wp2
            go_ret
            exact ⟨.inr rfl, HB.out⟩
          · go_wp2
            go_ret
            exact ⟨.inl rfl, HB.out⟩
end Go.Proofs.Qxb6603893a
