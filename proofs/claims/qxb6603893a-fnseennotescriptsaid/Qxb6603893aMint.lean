/-
  Region 2 of 'ZZSeenRead': five makes and an alloc, in whatever order; then the struct is built and stored.
-/
import Derived.Test.Qxb6603893aNote
namespace Go.Proofs.Qxb6603893a
open Go.RowKit Go.Maps
set_option linter.unusedVariables false

def c44 : Array Value := #[.int .u64 0, .bool false, .slice none 0 0, .slice none 0 0, .slice none 0 0, .slice none 0 0, .slice none 0 0, .bool false, .int .i64 0, .int .u64 0, .int .i64 0]
theorem i44 : (Try.prog.info? 44).map (fun i => (i.zero, i.size)) = some (some (.agg c44), 11) := by kernel_rfl
theorem run_alloc44 (w : World) : (Instr.alloc 44 true (.tuple #[])).run Try.prog w = .ok (.pointer (some ⟨w.heap.size, 0, none⟩)) (w.alloc (.cells c44 44)) := by
  have h := i44
  cases hi : Try.prog.info? 44 with
  | none => simp [hi] at h
  | some i =>
    simp [hi] at h
    simp [Instr.alloc, zeroValue, typeInfo, hi, h.1, go_sem, Value.cells]
/-- The view's struct. -/
def view (e : Int) (mk : Bool) (B0 B1 B2 B3 B4 n : Nat) (ln : Bool) (ll old lim : Int) : Array Value :=
  #[.int .u64 e, .bool mk, .slice (some ⟨B0, 0, none⟩) n n, .slice (some ⟨B1, 0, none⟩) n n, .slice (some ⟨B2, 0, none⟩) n n, .slice (some ⟨B3, 0, none⟩) n n, .slice (some ⟨B4, 0, none⟩) n n, .bool ln, .int .i64 ll, .int .u64 old, .int .i64 lim]
theorem built44 (e : Int) (mk : Bool) (B0 B1 B2 B3 B4 n : Nat) (ln : Bool) (ll old lim : Int) : Try.prog.built 44 [(0, .int .u64 e), (1, .bool mk), (2, .slice (some ⟨B0, 0, none⟩) n n), (3, .slice (some ⟨B1, 0, none⟩) n n), (4, .slice (some ⟨B2, 0, none⟩) n n), (5, .slice (some ⟨B3, 0, none⟩) n n), (6, .slice (some ⟨B4, 0, none⟩) n n), (7, .bool ln), (8, .int .i64 ll), (9, .int .u64 old), (10, .int .i64 lim)] = some (view e mk B0 B1 B2 B3 B4 n ln ll old lim) := by kernel_rfl

theorem i28 : (Try.prog.info? 28).map (fun i => (i.zero, i.size, i.bytes)) = some (some (.int .u64 0), 1, 8) := by kernel_rfl
theorem i2 : (Try.prog.info? 2).map (fun i => (i.zero, i.size, i.bytes)) = some (some (.int .i64 0), 1, 8) := by kernel_rfl
theorem i35 : (Try.prog.info? 35).map (fun i => (i.zero, i.size, i.bytes)) = some (some (.int .u32 0), 1, 4) := by kernel_rfl
theorem i4 : (Try.prog.info? 4).map (fun i => (i.zero, i.size, i.bytes)) = some (some (.bool false), 1, 1) := by kernel_rfl
def z34 : Value := .agg #[.int .u8 0, .int .u8 0, .int .u8 0, .int .u8 0, .int .u8 0, .int .u8 0, .int .u8 0, .int .u8 0, .int .u8 0, .int .u8 0, .int .u8 0, .int .u8 0, .int .u8 0, .int .u8 0, .int .u8 0, .int .u8 0]
theorem i34 : (Try.prog.info? 34).map (fun i => (i.zero, i.size, i.bytes)) = some (some z34, 16, 16) := by kernel_rfl

/-- The worlds that have only grown. -/
def KeepAll (w0 : World) : Type := { w' : World // Below w0.heap.size w0 w' }
instance (w0 : World) : Nonempty (KeepAll w0) := ⟨⟨w0, Below.refl _ _⟩⟩

def lst (b0 b1 b2 b3 b4 b5 b6 : Bool) : Array Bool :=
  #[true, true, true, true, true, true, true, true, true, b0, true, b1, true, b2, true, b3, true, b4, true, true, true, true, true, true, true, true, true, true, true, true, true, true, true, true, true, true, b6, b5, false]
def rdy (b0 b1 b2 b3 b4 b5 b6 : Bool) : List Nat :=
  (if b0 then [] else [9]) ++ (if b1 then [] else [11]) ++ (if b2 then [] else [13]) ++ (if b3 then [] else [15]) ++ (if b4 then [] else [17]) ++ (if b0 && b1 && b2 && b3 && b4 && !b6 then [36] else []) ++ (if b5 then [] else [37]) ++ (if b5 && b6 then [38] else [])
def bools : List Bool := [false, true]
def mintB (l : List Oper) : Bool :=
  bools.all fun b0 => bools.all fun b1 => bools.all fun b2 => bools.all fun b3 => bools.all fun b4 => bools.all fun b5 => bools.all fun b6 =>
    (b6 && !(b0 && b1 && b2 && b3 && b4)) || decide (Region.ready .any l.toArray (lst b0 b1 b2 b3 b4 b5 b6) = rdy b0 b1 b2 b3 b4 b5 b6)
theorem mem_bools (b : Bool) : b ∈ bools := by cases b <;> simp [bools]
theorem mintB_spec {l : List Oper} (h : mintB l = true) (b0 b1 b2 b3 b4 b5 b6 : Bool) (hb : b6 = true → b0 = true ∧ b1 = true ∧ b2 = true ∧ b3 = true ∧ b4 = true) :
    Region.ready .any l.toArray (lst b0 b1 b2 b3 b4 b5 b6) = rdy b0 b1 b2 b3 b4 b5 b6 := by
  have h1 := List.all_eq_true.1 (List.all_eq_true.1 (List.all_eq_true.1 (List.all_eq_true.1 (List.all_eq_true.1 (List.all_eq_true.1 (List.all_eq_true.1 h b0 (mem_bools _)) b1 (mem_bools _)) b2 (mem_bools _)) b3 (mem_bools _)) b4 (mem_bools _)) b5 (mem_bools _)) b6 (mem_bools _)
  simp only [Bool.or_eq_true, decide_eq_true_eq] at h1
  rcases h1 with h1 | h1
  · cases b6
    · simp at h1
    · obtain ⟨rfl, rfl, rfl, rfl, rfl⟩ := hb rfl
      simp at h1
  · exact h1

def put7 (a : Act) (u0 u1 u2 u3 u4 u5 u6 : Value) : Act :=
  ((((((a.put (some 21) u0).put (some 23) u1).put (some 25) u2).put (some 27) u3).put (some 29) u4).put (some 4) u5).put (some 48) u6

section
variable (a : Act) (u0 u1 u2 u3 u4 u5 u6 v : Value)
theorem put_put (d : Option Tmp) (x y : Value) : (a.put d x).put d y = a.put d y := by
  cases d with
  | none => rfl
  | some d => simp [Act.put]
theorem pc {d e : Tmp} (h : d ≠ e) (a : Act) (x y : Value) : (a.put (some d) x).put (some e) y = (a.put (some e) y).put (some d) x := Act.put_comm a x y fun _ hd => by cases hd; intro h'; cases h'; exact h rfl
theorem put7_0 : (put7 a u0 u1 u2 u3 u4 u5 u6).put (some 21) v = put7 a v u1 u2 u3 u4 u5 u6 := by
  unfold put7
  rw [pc (d := 48) (e := 21) (by decide), pc (d := 4) (e := 21) (by decide), pc (d := 29) (e := 21) (by decide), pc (d := 27) (e := 21) (by decide), pc (d := 25) (e := 21) (by decide), pc (d := 23) (e := 21) (by decide), put_put]
theorem put7_1 : (put7 a u0 u1 u2 u3 u4 u5 u6).put (some 23) v = put7 a u0 v u2 u3 u4 u5 u6 := by
  unfold put7
  rw [pc (d := 48) (e := 23) (by decide), pc (d := 4) (e := 23) (by decide), pc (d := 29) (e := 23) (by decide), pc (d := 27) (e := 23) (by decide), pc (d := 25) (e := 23) (by decide), put_put]
theorem put7_2 : (put7 a u0 u1 u2 u3 u4 u5 u6).put (some 25) v = put7 a u0 u1 v u3 u4 u5 u6 := by
  unfold put7
  rw [pc (d := 48) (e := 25) (by decide), pc (d := 4) (e := 25) (by decide), pc (d := 29) (e := 25) (by decide), pc (d := 27) (e := 25) (by decide), put_put]
theorem put7_3 : (put7 a u0 u1 u2 u3 u4 u5 u6).put (some 27) v = put7 a u0 u1 u2 v u4 u5 u6 := by
  unfold put7
  rw [pc (d := 48) (e := 27) (by decide), pc (d := 4) (e := 27) (by decide), pc (d := 29) (e := 27) (by decide), put_put]
theorem put7_4 : (put7 a u0 u1 u2 u3 u4 u5 u6).put (some 29) v = put7 a u0 u1 u2 u3 v u5 u6 := by
  unfold put7
  rw [pc (d := 48) (e := 29) (by decide), pc (d := 4) (e := 29) (by decide), put_put]
theorem put7_5 : (put7 a u0 u1 u2 u3 u4 u5 u6).put (some 4) v = put7 a u0 u1 u2 u3 u4 v u6 := by
  unfold put7
  rw [pc (d := 48) (e := 4) (by decide), put_put]
theorem put7_6 : (put7 a u0 u1 u2 u3 u4 u5 u6).put (some 48) v = put7 a u0 u1 u2 u3 u4 u5 v := by
  unfold put7
  rw [put_put]
theorem eval_put_ne {a : Act} {d t : Tmp} {v : Value} (h : d ≠ t) : (a.put (some d) v).eval (.tmp t) = a.eval (.tmp t) := Act.eval_put fun d' hd hx => by cases hd; cases hx; exact h rfl
theorem put7_eval {t : Tmp} (h21 : 21 ≠ t) (h23 : 23 ≠ t) (h25 : 25 ≠ t) (h27 : 27 ≠ t) (h29 : 29 ≠ t) (h4 : 4 ≠ t) (h48 : 48 ≠ t) : (put7 a u0 u1 u2 u3 u4 u5 u6).eval (.tmp t) = a.eval (.tmp t) := by
  unfold put7
  rw [eval_put_ne h48, eval_put_ne h4, eval_put_ne h29, eval_put_ne h27, eval_put_ne h25, eval_put_ne h23, eval_put_ne h21]
theorem eval_put_same {a : Act} {d : Tmp} {v : Value} (h : d < a.tmps.size) : (a.put (some d) v).eval (.tmp d) = v := by
  simp [Act.eval, Act.put, h]
theorem size_put (a : Act) (d : Option Tmp) (v : Value) : (a.put d v).tmps.size = a.tmps.size := by cases d <;> simp [Act.put]
variable (hs : 48 < a.tmps.size)
include hs
theorem put7_e0 : (put7 a u0 u1 u2 u3 u4 u5 u6).eval (.tmp 21) = u0 := by
  unfold put7
  rw [eval_put_ne (by decide), eval_put_ne (by decide), eval_put_ne (by decide), eval_put_ne (by decide), eval_put_ne (by decide), eval_put_ne (by decide), eval_put_same (by show (21 : Nat) < _; omega)]
theorem put7_e1 : (put7 a u0 u1 u2 u3 u4 u5 u6).eval (.tmp 23) = u1 := by
  unfold put7
  rw [eval_put_ne (by decide), eval_put_ne (by decide), eval_put_ne (by decide), eval_put_ne (by decide), eval_put_ne (by decide), eval_put_same (by simp only [size_put]; show (23 : Nat) < _; omega)]
theorem put7_e2 : (put7 a u0 u1 u2 u3 u4 u5 u6).eval (.tmp 25) = u2 := by
  unfold put7
  rw [eval_put_ne (by decide), eval_put_ne (by decide), eval_put_ne (by decide), eval_put_ne (by decide), eval_put_same (by simp only [size_put]; show (25 : Nat) < _; omega)]
theorem put7_e3 : (put7 a u0 u1 u2 u3 u4 u5 u6).eval (.tmp 27) = u3 := by
  unfold put7
  rw [eval_put_ne (by decide), eval_put_ne (by decide), eval_put_ne (by decide), eval_put_same (by simp only [size_put]; show (27 : Nat) < _; omega)]
theorem put7_e4 : (put7 a u0 u1 u2 u3 u4 u5 u6).eval (.tmp 29) = u4 := by
  unfold put7
  rw [eval_put_ne (by decide), eval_put_ne (by decide), eval_put_same (by simp only [size_put]; show (29 : Nat) < _; omega)]
end

theorem wpOp_value {P : Program} {ops : Array Oper} {i : Nat} {o : Oper} {K : Act → World → Prop} {a : Act} {w w' : World} {v : Value} (hi : ops[i]? = some o) (hg : o.guard = none)
    (hr : (execOp a.eval o).run P w = .ok (.value v) w') (hk : K (a.put o.dst v) w') : wpOp P ops NoExit i K a w := by
  unfold wpOp
  have hw : Region.wanted o (yielded ops a.tmps) = true := by simp [Region.wanted, hg]
  simp only [hi, hw, if_true, Oper.wp, hr, Oper.upon]
  exact .inl hk

/-- A row that was made. -/
def Md (w0 : World) (n : Nat) (t : TypeId) (sz : Nat) (z : Value) (b : Bool) (u : Value) (w : World) : Prop :=
  b = true → ∃ B, u = .slice (some ⟨B, 0, none⟩) n n ∧ w.ownsRow w0.heap.size t sz u n (madeCells z.cells (n * sz)).toList
theorem Md.kept {w0 : World} {n : Nat} {t : TypeId} {sz : Nat} {z : Value} {b : Bool} {u : Value} {w w' : World} (h : Md w0 n t sz z b u w) (hg : w.grownBy w' none) : Md w0 n t sz z b u w' := fun hb => by
  obtain ⟨B, rfl, h2⟩ := h hb
  exact ⟨B, rfl, h2.kept hg (.inr (by simp [Value.ownBlock]))⟩
/-- The struct that was laid. -/
def Al (w0 : World) (b : Bool) (u : Value) (w : World) : Prop := b = true → ∃ V, u = .pointer (some ⟨V, 0, none⟩) ∧ w0.heap.size ≤ V ∧ w.heap[V]? = some (.cells c44 44 (0, 0))
theorem Al.kept {w0 : World} {b : Bool} {u : Value} {w w' : World} (h : Al w0 b u w) (hg : w.grownBy w' none) : Al w0 b u w' := fun hb => by
  obtain ⟨V, h1, h2, h3⟩ := h hb
  exact ⟨V, h1, h2, (hg.block V (lt_of_heap h3) (by simp)).trans h3⟩
def Bd (e : Int) (mk : Bool) (n : Nat) (ln : Bool) (ll old lim : Int) (b : Bool) (u0 u1 u2 u3 u4 u6 : Value) : Prop :=
  b = true → ∃ B0 B1 B2 B3 B4, u0 = .slice (some ⟨B0, 0, none⟩) n n ∧ u1 = .slice (some ⟨B1, 0, none⟩) n n ∧ u2 = .slice (some ⟨B2, 0, none⟩) n n ∧ u3 = .slice (some ⟨B3, 0, none⟩) n n ∧ u4 = .slice (some ⟨B4, 0, none⟩) n n ∧ u6 = .agg (view e mk B0 B1 B2 B3 B4 n ln ll old lim)

def St (a0 : Act) (w0 : World) (e : Int) (mk : Bool) (n : Nat) (ln : Bool) (ll old lim : Int) (b0 b1 b2 b3 b4 b5 b6 : Bool) (a : Act) (w : World) : Prop :=
  ∃ u0 u1 u2 u3 u4 u5 u6, a = put7 a0 u0 u1 u2 u3 u4 u5 u6 ∧ Md w0 n 28 1 (.int .u64 0) b0 u0 w ∧ Md w0 n 34 16 z34 b1 u1 w ∧ Md w0 n 2 1 (.int .i64 0) b2 u2 w ∧ Md w0 n 35 1 (.int .u32 0) b3 u3 w ∧ Md w0 n 4 1 (.bool false) b4 u4 w ∧
    Al w0 b5 u5 w ∧ Bd e mk n ln ll old lim b6 u0 u1 u2 u3 u4 u6 ∧ (b6 = true → b0 = true ∧ b1 = true ∧ b2 = true ∧ b3 = true ∧ b4 = true) ∧ Below w0.heap.size w0 w

def left (b0 b1 b2 b3 b4 b5 b6 : Bool) : Nat := (!b0).toNat + (!b1).toNat + (!b2).toNat + (!b3).toNat + (!b4).toNat + (!b5).toNat + (!b6).toNat

theorem run_make_at {o : Oper} {a : Act} {w w0 : World} {t e : TypeId} {x : Operand} {z : Value} {sz by_ n : Nat} (hop : o.op = .makeSlice t x x) (hx : a.eval x = .int .i64 n) (ht : Try.prog.underlying t = some (.slice e)) (hi : (Try.prog.info? e).map (fun i => (i.zero, i.size, i.bytes)) = some (some z, sz, by_))
    (hn : n ≤ 2000000) (hby : by_ ≤ 100) (hb : Below w0.heap.size w0 w) :
    ∃ w', (execOp a.eval o).run Try.prog w = .ok (.value (.slice (some ⟨w.heap.size, 0, none⟩) n n)) w' ∧ Md w0 n e sz z true (.slice (some ⟨w.heap.size, 0, none⟩) n n) w' ∧ w.grownBy w' none ∧ Below w0.heap.size w0 w' := by
  obtain ⟨i, h1, h2, h3, h4⟩ := info_parts hi
  have hbn : i.bytes * n ≤ 281474976710656 := by
    rw [h4]
    exact Nat.le_trans (Nat.mul_le_mul hby hn) (by decide)
  obtain ⟨w', hr, ho, hg⟩ := run_make_full (P := Try.prog) w w0.heap.size t e i z sz ht h1 h2 h3 .i64 .i64 n hbn (by unfold maxLen; omega) hb.size
  refine ⟨w', ?_, fun _ => ⟨_, rfl, ho⟩, hg, hb.grown hg hb.size (by simp)⟩
  unfold execOp
  simp only [hop, hx, Sem.run_bind, hr, Result.andThen_ok, Sem.run_pure]

set_option maxHeartbeats 1000000 in
theorem mints {l : List Oper} {L : Array Bool → Act → World → Prop} {a0 : Act} {w0 : World} {e : Int} {mk : Bool} {n : Nat} {ln : Bool} {ll old lim : Int} (hchk : mintB l = true) (hsz : 48 < a0.tmps.size) (hn : n ≤ 2000000)
    (o9 : ∃ o, l[9]? = some o ∧ o.op = .makeSlice 31 (.tmp 20) (.tmp 20) ∧ o.dst = some 21 ∧ o.guard = none)
    (o11 : ∃ o, l[11]? = some o ∧ o.op = .makeSlice 30 (.tmp 22) (.tmp 22) ∧ o.dst = some 23 ∧ o.guard = none)
    (o13 : ∃ o, l[13]? = some o ∧ o.op = .makeSlice 40 (.tmp 24) (.tmp 24) ∧ o.dst = some 25 ∧ o.guard = none)
    (o15 : ∃ o, l[15]? = some o ∧ o.op = .makeSlice 41 (.tmp 26) (.tmp 26) ∧ o.dst = some 27 ∧ o.guard = none)
    (o17 : ∃ o, l[17]? = some o ∧ o.op = .makeSlice 42 (.tmp 28) (.tmp 28) ∧ o.dst = some 29 ∧ o.guard = none)
    (o36 : ∃ o, l[36]? = some o ∧ o.op = .build 44 #[(0, .tmp 15), (1, .tmp 19), (2, .tmp 21), (3, .tmp 23), (4, .tmp 25), (5, .tmp 27), (6, .tmp 29), (7, .tmp 34), (8, .tmp 39), (9, .tmp 43), (10, .tmp 47)] ∧ o.dst = some 48 ∧ o.guard = none)
    (o37 : ∃ o, l[37]? = some o ∧ o.op = .alloc 44 ∧ o.dst = some 4 ∧ o.guard = none)
    (e20 : a0.eval (.tmp 20) = .int .i64 n) (e22 : a0.eval (.tmp 22) = .int .i64 n) (e24 : a0.eval (.tmp 24) = .int .i64 n) (e26 : a0.eval (.tmp 26) = .int .i64 n) (e28 : a0.eval (.tmp 28) = .int .i64 n)
    (e15 : a0.eval (.tmp 15) = .int .u64 e) (e19 : a0.eval (.tmp 19) = .bool mk) (e34 : a0.eval (.tmp 34) = .bool ln) (e39 : a0.eval (.tmp 39) = .int .i64 ll) (e43 : a0.eval (.tmp 43) = .int .u64 old) (e47 : a0.eval (.tmp 47) = .int .i64 lim)
    (hend : ∀ a w, St a0 w0 e mk n ln ll old lim true true true true true true true a w → L (lst true true true true true true true) a w) :
    ∀ (f : Nat) (b0 b1 b2 b3 b4 b5 b6 : Bool) (a : Act) (w : World), f = left b0 b1 b2 b3 b4 b5 b6 → St a0 w0 e mk n ln ll old lim b0 b1 b2 b3 b4 b5 b6 a w →
      wpMix Try.prog .any l.toArray (fun w' => ∃ x : KeepAll w0, w' = x.1) 38 L f (lst b0 b1 b2 b3 b4 b5 b6) a w := by
  intro f
  induction f with
  | zero =>
    intro b0 b1 b2 b3 b4 b5 b6 a w hf hst
    have hall : b0 = true ∧ b1 = true ∧ b2 = true ∧ b3 = true ∧ b4 = true ∧ b5 = true ∧ b6 = true := by
      cases b0 <;> cases b1 <;> cases b2 <;> cases b3 <;> cases b4 <;> cases b5 <;> cases b6 <;> simp [left] at hf ⊢
    obtain ⟨rfl, rfl, rfl, rfl, rfl, rfl, rfl⟩ := hall
    refine ⟨?_, hend a w hst⟩
    obtain ⟨_, _, _, _, _, _, _, _, _, _, _, _, _, _, _, _, hb⟩ := hst
    exact ⟨⟨w, hb⟩, rfl⟩
  | succ f ih =>
    intro b0 b1 b2 b3 b4 b5 b6 a w hf hst
    have hst' := hst
    obtain ⟨u0, u1, u2, u3, u4, u5, u6, rfl, m0, m1, m2, m3, m4, ma, mb, hb6, hb⟩ := hst
    have hrd := mintB_spec hchk b0 b1 b2 b3 b4 b5 b6 hb6
    refine ⟨⟨⟨w, hb⟩, rfl⟩, ?_, ?_⟩
    · rw [hrd]
      cases b0 <;> cases b1 <;> cases b2 <;> cases b3 <;> cases b4 <;> cases b5 <;> cases b6 <;> simp [left, rdy] at hf ⊢
    · rw [hrd]
      intro i hi
      have hcase : (i = 9 ∧ b0 = false) ∨ (i = 11 ∧ b1 = false) ∨ (i = 13 ∧ b2 = false) ∨ (i = 15 ∧ b3 = false) ∨ (i = 17 ∧ b4 = false) ∨ (i = 36 ∧ b0 = true ∧ b1 = true ∧ b2 = true ∧ b3 = true ∧ b4 = true ∧ b6 = false) ∨ (i = 37 ∧ b5 = false) ∨ (i = 38 ∧ b5 = true ∧ b6 = true) := by
        revert hi
        cases b0 <;> cases b1 <;> cases b2 <;> cases b3 <;> cases b4 <;> cases b5 <;> cases b6 <;> simp [rdy]
      rcases hcase with ⟨rfl, rfl⟩ | ⟨rfl, rfl⟩ | ⟨rfl, rfl⟩ | ⟨rfl, rfl⟩ | ⟨rfl, rfl⟩ | ⟨rfl, rfl, rfl, rfl, rfl, rfl, rfl⟩ | ⟨rfl, rfl⟩ | ⟨rfl, rfl, rfl⟩
      · refine ⟨by decide, ?_⟩
        obtain ⟨o, h1, h2, h3, h4⟩ := o9
        obtain ⟨w', r1, r2, r3, r4⟩ := run_make_at (a := put7 a0 u0 u1 u2 u3 u4 u5 u6) h2 (by rw [put7_eval _ _ _ _ _ _ _ _ (by decide) (by decide) (by decide) (by decide) (by decide) (by decide) (by decide)]; exact e20) Try.underlying31 i28 hn (by decide) hb
        refine wpOp_value (by simpa using h1) h4 r1 (ih true b1 b2 b3 b4 b5 b6 _ w' (by simp only [left] at hf ⊢; simp at hf ⊢; omega) ?_)
        rw [h3, put7_0]
        exact ⟨_, _, _, _, _, _, _, rfl, r2, m1.kept r3, m2.kept r3, m3.kept r3, m4.kept r3, ma.kept r3, fun h => by have := (hb6 h).1; simp at this, fun h => by have := (hb6 h).1; simp at this, r4⟩
      · refine ⟨by decide, ?_⟩
        obtain ⟨o, h1, h2, h3, h4⟩ := o11
        obtain ⟨w', r1, r2, r3, r4⟩ := run_make_at (a := put7 a0 u0 u1 u2 u3 u4 u5 u6) h2 (by rw [put7_eval _ _ _ _ _ _ _ _ (by decide) (by decide) (by decide) (by decide) (by decide) (by decide) (by decide)]; exact e22) Try.underlying30 i34 hn (by decide) hb
        refine wpOp_value (by simpa using h1) h4 r1 (ih b0 true b2 b3 b4 b5 b6 _ w' (by simp only [left] at hf ⊢; simp at hf ⊢; omega) ?_)
        rw [h3, put7_1]
        exact ⟨_, _, _, _, _, _, _, rfl, m0.kept r3, r2, m2.kept r3, m3.kept r3, m4.kept r3, ma.kept r3, fun h => by have := (hb6 h).2.1; simp at this, fun h => by have := (hb6 h).2.1; simp at this, r4⟩
      · refine ⟨by decide, ?_⟩
        obtain ⟨o, h1, h2, h3, h4⟩ := o13
        obtain ⟨w', r1, r2, r3, r4⟩ := run_make_at (a := put7 a0 u0 u1 u2 u3 u4 u5 u6) h2 (by rw [put7_eval _ _ _ _ _ _ _ _ (by decide) (by decide) (by decide) (by decide) (by decide) (by decide) (by decide)]; exact e24) Try.underlying40 i2 hn (by decide) hb
        refine wpOp_value (by simpa using h1) h4 r1 (ih b0 b1 true b3 b4 b5 b6 _ w' (by simp only [left] at hf ⊢; simp at hf ⊢; omega) ?_)
        rw [h3, put7_2]
        exact ⟨_, _, _, _, _, _, _, rfl, m0.kept r3, m1.kept r3, r2, m3.kept r3, m4.kept r3, ma.kept r3, fun h => by have := (hb6 h).2.2.1; simp at this, fun h => by have := (hb6 h).2.2.1; simp at this, r4⟩
      · refine ⟨by decide, ?_⟩
        obtain ⟨o, h1, h2, h3, h4⟩ := o15
        obtain ⟨w', r1, r2, r3, r4⟩ := run_make_at (a := put7 a0 u0 u1 u2 u3 u4 u5 u6) h2 (by rw [put7_eval _ _ _ _ _ _ _ _ (by decide) (by decide) (by decide) (by decide) (by decide) (by decide) (by decide)]; exact e26) Try.underlying41 i35 hn (by decide) hb
        refine wpOp_value (by simpa using h1) h4 r1 (ih b0 b1 b2 true b4 b5 b6 _ w' (by simp only [left] at hf ⊢; simp at hf ⊢; omega) ?_)
        rw [h3, put7_3]
        exact ⟨_, _, _, _, _, _, _, rfl, m0.kept r3, m1.kept r3, m2.kept r3, r2, m4.kept r3, ma.kept r3, fun h => by have := (hb6 h).2.2.2.1; simp at this, fun h => by have := (hb6 h).2.2.2.1; simp at this, r4⟩
      · refine ⟨by decide, ?_⟩
        obtain ⟨o, h1, h2, h3, h4⟩ := o17
        obtain ⟨w', r1, r2, r3, r4⟩ := run_make_at (a := put7 a0 u0 u1 u2 u3 u4 u5 u6) h2 (by rw [put7_eval _ _ _ _ _ _ _ _ (by decide) (by decide) (by decide) (by decide) (by decide) (by decide) (by decide)]; exact e28) Try.underlying42 i4 hn (by decide) hb
        refine wpOp_value (by simpa using h1) h4 r1 (ih b0 b1 b2 b3 true b5 b6 _ w' (by simp only [left] at hf ⊢; simp at hf ⊢; omega) ?_)
        rw [h3, put7_4]
        exact ⟨_, _, _, _, _, _, _, rfl, m0.kept r3, m1.kept r3, m2.kept r3, m3.kept r3, r2, ma.kept r3, fun h => by have := (hb6 h).2.2.2.2; simp at this, fun h => by have := (hb6 h).2.2.2.2; simp at this, r4⟩
      · refine ⟨by decide, ?_⟩
        obtain ⟨o, h1, h2, h3, h4⟩ := o36
        obtain ⟨B0, rfl, _⟩ := m0 rfl
        obtain ⟨B1, rfl, _⟩ := m1 rfl
        obtain ⟨B2, rfl, _⟩ := m2 rfl
        obtain ⟨B3, rfl, _⟩ := m3 rfl
        obtain ⟨B4, rfl, _⟩ := m4 rfl
        have ev := fun (t : Tmp) (x1 : 21 ≠ t) (x2 : 23 ≠ t) (x3 : 25 ≠ t) (x4 : 27 ≠ t) (x5 : 29 ≠ t) (x6 : 4 ≠ t) (x7 : 48 ≠ t) => put7_eval a0 (.slice (some ⟨B0, 0, none⟩) n n) (.slice (some ⟨B1, 0, none⟩) n n) (.slice (some ⟨B2, 0, none⟩) n n) (.slice (some ⟨B3, 0, none⟩) n n) (.slice (some ⟨B4, 0, none⟩) n n) u5 u6 x1 x2 x3 x4 x5 x6 x7
        have hbl := built44 e mk B0 B1 B2 B3 B4 n ln ll old lim
        have hr : (execOp (put7 a0 (.slice (some ⟨B0, 0, none⟩) n n) (.slice (some ⟨B1, 0, none⟩) n n) (.slice (some ⟨B2, 0, none⟩) n n) (.slice (some ⟨B3, 0, none⟩) n n) (.slice (some ⟨B4, 0, none⟩) n n) u5 u6).eval o).run Try.prog w = .ok (.value (.agg (view e mk B0 B1 B2 B3 B4 n ln ll old lim))) w := by
          unfold execOp
          simp only [h2, Sem.run_bind]
          rw [run_build w 44 _ (view e mk B0 B1 B2 B3 B4 n ln ll old lim) (by
            rw [Array.toList_map]
            simp only [List.map_cons, List.map_nil, put7_e0 _ _ _ _ _ _ _ _ hsz, put7_e1 _ _ _ _ _ _ _ _ hsz, put7_e2 _ _ _ _ _ _ _ _ hsz, put7_e3 _ _ _ _ _ _ _ _ hsz, put7_e4 _ _ _ _ _ _ _ _ hsz, ev 15 (by decide) (by decide) (by decide) (by decide) (by decide) (by decide) (by decide), ev 19 (by decide) (by decide) (by decide) (by decide) (by decide) (by decide) (by decide), ev 34 (by decide) (by decide) (by decide) (by decide) (by decide) (by decide) (by decide), ev 39 (by decide) (by decide) (by decide) (by decide) (by decide) (by decide) (by decide), ev 43 (by decide) (by decide) (by decide) (by decide) (by decide) (by decide) (by decide), ev 47 (by decide) (by decide) (by decide) (by decide) (by decide) (by decide) (by decide), e15, e19, e34, e39, e43, e47]
            exact hbl)]
          rfl
        refine wpOp_value (by simpa using h1) h4 hr (ih true true true true true b5 true _ w (by simp only [left] at hf ⊢; simp at hf ⊢; omega) ?_)
        rw [h3, put7_6]
        exact ⟨_, _, _, _, _, _, _, rfl, m0, m1, m2, m3, m4, ma, fun _ => ⟨B0, B1, B2, B3, B4, rfl, rfl, rfl, rfl, rfl, rfl⟩, fun _ => ⟨rfl, rfl, rfl, rfl, rfl⟩, hb⟩
      · refine ⟨by decide, ?_⟩
        obtain ⟨o, h1, h2, h3, h4⟩ := o37
        have hr : (execOp (put7 a0 u0 u1 u2 u3 u4 u5 u6).eval o).run Try.prog w = .ok (.value (.pointer (some ⟨w.heap.size, 0, none⟩))) (w.alloc (.cells c44 44)) := by
          unfold execOp
          simp only [h2, Sem.run_bind, run_alloc44, Result.andThen_ok, Sem.run_pure]
        have r3 := World.grownBy_alloc w (.cells c44 44) none
        refine wpOp_value (by simpa using h1) h4 hr (ih b0 b1 b2 b3 b4 true b6 _ _ (by simp only [left] at hf ⊢; simp at hf ⊢; omega) ?_)
        rw [h3, put7_5]
        exact ⟨_, _, _, _, _, _, _, rfl, m0.kept r3, m1.kept r3, m2.kept r3, m3.kept r3, m4.kept r3, fun _ => ⟨_, rfl, hb.size, heap_alloc_new w _⟩, mb, hb6, hb.alloc hb.size _⟩
      · exfalso
        obtain ⟨rfl, rfl, rfl, rfl, rfl⟩ := hb6 rfl
        simp [left] at hf
theorem put_same {a : Act} {d : Tmp} {v : Value} (h : a.tmps[d]? = some v) : a.put (some d) v = a := by
  obtain ⟨tmps, defers⟩ := a
  simp only [Act.put, Act.mk.injEq, and_true]
  obtain ⟨hd, rfl⟩ := Array.getElem?_eq_some_iff.1 h
  apply Array.ext
  · simp
  · intro i h1 h2
    rw [Array.getElem_setIfInBounds]
    split
    · rename_i e
      subst e
      rfl
    · rfl

theorem mints0 {w : World} {l : List Oper} {L : Array Bool → Act → World → Prop} {a0 : Act} {w0 : World} {e : Int} {mk : Bool} {n : Nat} {ln : Bool} {ll old lim : Int} (hchk : mintB l = true) (hsz : 48 < a0.tmps.size) (hn : n ≤ 2000000)
    (o9 : ∃ o, l[9]? = some o ∧ o.op = .makeSlice 31 (.tmp 20) (.tmp 20) ∧ o.dst = some 21 ∧ o.guard = none)
    (o11 : ∃ o, l[11]? = some o ∧ o.op = .makeSlice 30 (.tmp 22) (.tmp 22) ∧ o.dst = some 23 ∧ o.guard = none)
    (o13 : ∃ o, l[13]? = some o ∧ o.op = .makeSlice 40 (.tmp 24) (.tmp 24) ∧ o.dst = some 25 ∧ o.guard = none)
    (o15 : ∃ o, l[15]? = some o ∧ o.op = .makeSlice 41 (.tmp 26) (.tmp 26) ∧ o.dst = some 27 ∧ o.guard = none)
    (o17 : ∃ o, l[17]? = some o ∧ o.op = .makeSlice 42 (.tmp 28) (.tmp 28) ∧ o.dst = some 29 ∧ o.guard = none)
    (o36 : ∃ o, l[36]? = some o ∧ o.op = .build 44 #[(0, .tmp 15), (1, .tmp 19), (2, .tmp 21), (3, .tmp 23), (4, .tmp 25), (5, .tmp 27), (6, .tmp 29), (7, .tmp 34), (8, .tmp 39), (9, .tmp 43), (10, .tmp 47)] ∧ o.dst = some 48 ∧ o.guard = none)
    (o37 : ∃ o, l[37]? = some o ∧ o.op = .alloc 44 ∧ o.dst = some 4 ∧ o.guard = none)
    (e20 : a0.eval (.tmp 20) = .int .i64 n) (e22 : a0.eval (.tmp 22) = .int .i64 n) (e24 : a0.eval (.tmp 24) = .int .i64 n) (e26 : a0.eval (.tmp 26) = .int .i64 n) (e28 : a0.eval (.tmp 28) = .int .i64 n)
    (e15 : a0.eval (.tmp 15) = .int .u64 e) (e19 : a0.eval (.tmp 19) = .bool mk) (e34 : a0.eval (.tmp 34) = .bool ln) (e39 : a0.eval (.tmp 39) = .int .i64 ll) (e43 : a0.eval (.tmp 43) = .int .u64 old) (e47 : a0.eval (.tmp 47) = .int .i64 lim)
    (s21 : a0.tmps[21]? = some undef) (s23 : a0.tmps[23]? = some undef) (s25 : a0.tmps[25]? = some undef) (s27 : a0.tmps[27]? = some undef) (s29 : a0.tmps[29]? = some undef) (s4 : a0.tmps[4]? = some undef) (s48 : a0.tmps[48]? = some undef) (hb : Below w0.heap.size w0 w)
    (hend : ∀ a w, St a0 w0 e mk n ln ll old lim true true true true true true true a w → L (lst true true true true true true true) a w) :
      wpMix Try.prog .any l.toArray (fun w' => ∃ x : KeepAll w0, w' = x.1) 38 L 7 (lst false false false false false false false) a0 w := by
  refine mints hchk hsz hn o9 o11 o13 o15 o17 o36 o37 e20 e22 e24 e26 e28 e15 e19 e34 e39 e43 e47 hend 7 false false false false false false false _ _ rfl ⟨undef, undef, undef, undef, undef, undef, undef, ?_, (fun h => by cases h), (fun h => by cases h), (fun h => by cases h), (fun h => by cases h), (fun h => by cases h), (fun h => by cases h), (fun h => by cases h), (fun h => by cases h), hb⟩
  unfold put7
  rw [put_same s21, put_same s23, put_same s25, put_same s27, put_same s29, put_same s4, put_same s48]
end Go.Proofs.Qxb6603893a
