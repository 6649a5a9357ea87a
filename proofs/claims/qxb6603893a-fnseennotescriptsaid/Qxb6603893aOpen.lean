/-
  The law's arguments, opened.
-/
import Derived.Test.Qxb6603893aBuild
import Derived.OpenShut
import Derived.ChangeSlices
import Derived.ChangeArms
namespace Go.Proofs.Qxb6603893a
open Go.RowKit Go.Maps Go.ChangeShapes Go.WideShapes
set_option linter.unusedVariables false

section
variable {H : Type} {enc : TypeId × Value → H} {w : World} {base : Nat} {spare : Nat → Bool} {held : Bool} {fuel : Nat} {cs : List Value} {x : DataW H × List MemPlace}

theorem list_choose {β : Type} (p : Nat → β → Prop) : ∀ n, (∀ i, i < n → ∃ y, p i y) → ∃ l : List β, l.length = n ∧ ∀ (i : Nat) (y : β), l[i]? = some y → p i y
  | 0, _ => ⟨[], rfl, fun i y h => by cases h⟩
  | n + 1, h => by
    obtain ⟨l, hl, hp⟩ := list_choose p n fun i hi => h i (by omega)
    obtain ⟨y, hy⟩ := h n (by omega)
    refine ⟨l ++ [y], by simp [hl], fun i z hz => ?_⟩
    by_cases hi : i < n
    · rw [List.getElem?_append_left (by omega)] at hz
      exact hp i z hz
    · have hlt := (List.getElem?_eq_some_iff.1 hz).1
      simp at hlt
      obtain rfl : i = n := by omega
      rw [List.getElem?_append_right (by omega), hl] at hz
      simp at hz
      exact hz ▸ hy

theorem dev_open (h : DataW.trod enc Try.prog w base spare held fuel 34 cs = some x) : Dev cs := by
  obtain ⟨xs, m, _, _, hl, hx, he⟩ := DataW.trod_array Try.underlying34 h
  have h1 : Try.prog.cellsOf 34 = 16 := by kernel_rfl
  have h2 : Try.prog.cellsOf 5 = 1 := by kernel_rfl
  rw [h1] at hl
  refine ⟨hl, fun v hv => ?_⟩
  obtain ⟨i, hi, rfl⟩ := List.getElem_of_mem hv
  have := he i (by omega)
  rw [h2, Nat.mul_one, List.getElem?_eq_getElem (by omega)] at this
  obtain ⟨n, q1, _, q2⟩ := DataW.trod_int Try.underlying5 this
  rw [List.drop_eq_getElem_cons (by omega), List.take_succ_cons] at q1
  simp only [List.take_zero, List.cons.injEq, and_true] at q1
  exact ⟨n, q1, q2⟩

theorem take1 {cs : List Value} {o : Nat} {v : Value} (h : (cs.drop o).take 1 = [v]) : cs.drop o = v :: cs.drop (o + 1) := by
  cases hd : cs.drop o with
  | nil => rw [hd] at h; cases h
  | cons a l =>
    rw [hd] at h
    simp only [List.take_succ_cons, List.take_zero, List.cons.injEq, and_true] at h
    subst h
    have : cs.drop (o + 1) = (cs.drop o).drop 1 := by rw [List.drop_drop]
    rw [this, hd]
    rfl

theorem ent_open (h : DataW.trod enc Try.prog w base spare held fuel 63 cs = some x) : ∃ y : Ent, cs = y.cells ∧ Dev y.D := by
  obtain ⟨xs, m, _, _, hl, hx, he⟩ := DataW.trod_struct Try.underlying63 h
  have h0 : Try.prog.cellsOf 63 = 20 := by kernel_rfl
  have h1 : Try.prog.cellsOf 34 = 16 := by kernel_rfl
  have h2 : Try.prog.cellsOf 28 = 1 := by kernel_rfl
  have h3 : Try.prog.cellsOf 2 = 1 := by kernel_rfl
  have h4 : Try.prog.cellsOf 35 = 1 := by kernel_rfl
  have h5 : Try.prog.cellsOf 4 = 1 := by kernel_rfl
  rw [h0] at hl
  have hx' : xs.length = 5 := hx
  have f0 : DataW.trod enc Try.prog w base spare held m 28 ((cs.drop 0).take (Try.prog.cellsOf 28)) = xs[0]? := he 0 _ rfl
  rw [h2, List.getElem?_eq_getElem (by omega)] at f0
  have f1 : DataW.trod enc Try.prog w base spare held m 34 ((cs.drop 1).take (Try.prog.cellsOf 34)) = xs[1]? := he 1 _ rfl
  rw [h1, List.getElem?_eq_getElem (by omega)] at f1
  have f2 : DataW.trod enc Try.prog w base spare held m 2 ((cs.drop 17).take (Try.prog.cellsOf 2)) = xs[2]? := he 2 _ rfl
  rw [h3, List.getElem?_eq_getElem (by omega)] at f2
  have f3 : DataW.trod enc Try.prog w base spare held m 35 ((cs.drop 18).take (Try.prog.cellsOf 35)) = xs[3]? := he 3 _ rfl
  rw [h4, List.getElem?_eq_getElem (by omega)] at f3
  have f4 : DataW.trod enc Try.prog w base spare held m 4 ((cs.drop 19).take (Try.prog.cellsOf 4)) = xs[4]? := he 4 _ rfl
  rw [h5, List.getElem?_eq_getElem (by omega)] at f4
  obtain ⟨e, q0, _, _⟩ := DataW.trod_int Try.underlying28 f0
  have hD := dev_open f1
  obtain ⟨wl, q2, _, _⟩ := DataW.trod_int Try.underlying2 f2
  obtain ⟨ct, q3, _, _⟩ := DataW.trod_int Try.underlying35 f3
  obtain ⟨hd, q4, _⟩ := DataW.trod_bool Try.underlying4 f4
  have r0 := take1 q0
  have r2 := take1 q2
  have r3 := take1 q3
  have r4 := take1 q4
  have r5 : cs.drop 20 = [] := List.drop_eq_nil_of_le (by omega)
  rw [List.drop_zero] at r0
  have r1 : cs.drop 1 = (cs.drop 1).take 16 ++ cs.drop 17 := by
    have := (List.take_append_drop 16 (cs.drop 1)).symm
    rw [List.drop_drop] at this
    exact this
  generalize (cs.drop 1).take 16 = D at hD r1
  refine ⟨⟨e, D, wl, ct, hd⟩, ?_, hD⟩
  have r6 : cs.drop 17 = [.int .i64 wl, .int .u32 ct, .bool hd] := by rw [r2, r3, r4, r5]
  exact r0.trans (by rw [r1, r6]; rfl)

theorem cells_of? {a : Addr} {n : Nat} {l : List Value} (h : w.cells? base a n = some l) : l.length = n ∧ ∀ (j : Nat) (v : Value), l[j]? = some v → w.cell? (a.add j) = some v := by
  unfold World.cells? at h
  split at h
  · have hl := mapM_some_length h
    refine ⟨by simpa using hl, fun j v hv => ?_⟩
    have hj : j < n := by have := (List.getElem?_eq_some_iff.1 hv).1; simp at hl; omega
    have := mapM_some_get h j j (by simp [hj])
    rw [this, hv]
  · cases h

theorem rows_open {t e : TypeId} {sz : Nat} (ht : Try.prog.underlying t = some (.slice e)) (hsz : Try.prog.cellsOf e = sz) (hpos : 0 < sz) (h : DataW.trod enc Try.prog w base spare held fuel t cs = some x) :
    ∃ (a : Option Addr) (len cap : Nat) (ls : List (List Value)), cs = [.slice a len cap] ∧ len ≤ cap ∧ cap ≤ maxLen ∧ ls.length = len ∧ (∀ l ∈ ls, ∃ (n : Nat) (y : DataW H × List MemPlace), DataW.trod enc Try.prog w base spare held n e l = some y) ∧
      (ls ≠ [] → ∃ b off, a = some ⟨b, off, none⟩ ∧ b < w.heap.size ∧ ∀ (k : Nat) (l : List Value), ls[k]? = some l → w.rangeAt b (off + k * sz) l) := by
  rcases DataW.trod_slice ht h with ⟨rfl, _⟩ | ⟨a, len, cap, elems, rest, n, _, rfl, _, _, h1, h2, h3, h4, _⟩
  · exact ⟨none, 0, 0, [], rfl, Nat.le_refl _, Nat.zero_le _, rfl, by simp, by simp⟩
  · obtain ⟨ls, hl, hp⟩ := list_choose (fun i (l : List Value) => w.cells? base (a.add (i * sz)) sz = some l ∧ ∃ (m : Nat) (y : DataW H × List MemPlace), DataW.trod enc Try.prog w base spare held m e l = some y) len fun i hi => by
      have := h4 i hi
      rw [hsz, List.getElem?_eq_getElem (by omega), Option.bind_eq_some_iff] at this
      obtain ⟨l, q1, q2⟩ := this
      exact ⟨l, q1, n, _, q2⟩
    refine ⟨some a, len, cap, ls, rfl, h1, h2, hl, fun l hl' => ?_, fun hne => ?_⟩
    · obtain ⟨i, hi⟩ := List.getElem?_of_mem hl'
      exact (hp i l hi).2
    · have hlen : 0 < len := by
        rw [← hl]
        exact List.length_pos_iff.2 hne
      obtain ⟨q0, _⟩ := hp 0 _ (List.getElem?_eq_getElem (by omega))
      obtain ⟨z1, z2⟩ := cells_of? q0
      have c0 := z2 0 _ (List.getElem?_eq_getElem (by omega))
      obtain ⟨b, off, spot⟩ := a
      have hsp : spot = none := by simpa [Addr.add] using World.cell?_spot c0
      subst hsp
      refine ⟨b, off, rfl, ?_, fun k l hk j v hv => ?_⟩
      · have e0 : ((⟨b, off, none⟩ : Addr).add (0 * sz)).add 0 = ⟨b, off + 0 * sz + 0, none⟩ := by rw [Addr.add_lit, Addr.add_lit]
        rw [e0] at c0
        exact World.block_lt_of_cell? w _ c0
      · have := (cells_of? (hp k l hk).1).2 j v hv
        have e1 : ((⟨b, off, none⟩ : Addr).add (k * sz)).add j = ⟨b, off + k * sz + j, none⟩ := by rw [Addr.add_lit, Addr.add_lit]
        rw [e1] at this
        exact this

/-- The whole state. -/
theorem state_open (h : DataW.trod enc Try.prog w base spare held fuel 33 cs = some x) :
    ∃ (e : Int) (mk : Bool) (ca : Option Addr) (cc : Nat) (es : List Ent) (ln : Bool) (ka va : Option Addr) (kc vc : Nat) (ks : List (List Value)) (vs : List Int) (old lim : Int),
      cs = [.int .u64 e, .bool mk, .slice ca es.length cc, .bool ln, .slice ka ks.length kc, .slice va vs.length vc, .int .u64 old, .int .i64 lim] ∧
      EntsAt w ca es ∧ DevsAt w ka ks ∧ IntsAt w .u64 va vs ∧ (es.length ≤ cc ∧ cc ≤ maxLen) ∧ ks.length ≤ maxLen ∧ vs.length ≤ maxLen ∧ (Lit.int .u64 e).wf = true ∧ (Lit.int .i64 lim).wf = true := by
  obtain ⟨xs, m, _, _, hl, hx, he⟩ := DataW.trod_struct Try.underlying33 h
  have h0 : Try.prog.cellsOf 33 = 8 := by kernel_rfl
  have h1 : Try.prog.cellsOf 28 = 1 := by kernel_rfl
  have h2 : Try.prog.cellsOf 4 = 1 := by kernel_rfl
  have h3 : Try.prog.cellsOf 29 = 1 := by kernel_rfl
  have h4 : Try.prog.cellsOf 30 = 1 := by kernel_rfl
  have h5 : Try.prog.cellsOf 31 = 1 := by kernel_rfl
  have h6 : Try.prog.cellsOf 3 = 1 := by kernel_rfl
  have h63 : Try.prog.cellsOf 63 = 20 := by kernel_rfl
  have h34 : Try.prog.cellsOf 34 = 16 := by kernel_rfl
  rw [h0] at hl
  have hx' : xs.length = 8 := hx
  have f0 : DataW.trod enc Try.prog w base spare held m 28 ((cs.drop 0).take (Try.prog.cellsOf 28)) = xs[0]? := he 0 _ rfl
  rw [h1, List.getElem?_eq_getElem (by omega)] at f0
  have f1 : DataW.trod enc Try.prog w base spare held m 4 ((cs.drop 1).take (Try.prog.cellsOf 4)) = xs[1]? := he 1 _ rfl
  rw [h2, List.getElem?_eq_getElem (by omega)] at f1
  have f2 : DataW.trod enc Try.prog w base spare held m 29 ((cs.drop 2).take (Try.prog.cellsOf 29)) = xs[2]? := he 2 _ rfl
  rw [h3, List.getElem?_eq_getElem (by omega)] at f2
  have f3 : DataW.trod enc Try.prog w base spare held m 4 ((cs.drop 3).take (Try.prog.cellsOf 4)) = xs[3]? := he 3 _ rfl
  rw [h2, List.getElem?_eq_getElem (by omega)] at f3
  have f4 : DataW.trod enc Try.prog w base spare held m 30 ((cs.drop 4).take (Try.prog.cellsOf 30)) = xs[4]? := he 4 _ rfl
  rw [h4, List.getElem?_eq_getElem (by omega)] at f4
  have f5 : DataW.trod enc Try.prog w base spare held m 31 ((cs.drop 5).take (Try.prog.cellsOf 31)) = xs[5]? := he 5 _ rfl
  rw [h5, List.getElem?_eq_getElem (by omega)] at f5
  have f6 : DataW.trod enc Try.prog w base spare held m 28 ((cs.drop 6).take (Try.prog.cellsOf 28)) = xs[6]? := he 6 _ rfl
  rw [h1, List.getElem?_eq_getElem (by omega)] at f6
  have f7 : DataW.trod enc Try.prog w base spare held m 3 ((cs.drop 7).take (Try.prog.cellsOf 3)) = xs[7]? := he 7 _ rfl
  rw [h6, List.getElem?_eq_getElem (by omega)] at f7
  obtain ⟨e, q0, _, we⟩ := DataW.trod_int Try.underlying28 f0
  obtain ⟨mk, q1, _⟩ := DataW.trod_bool Try.underlying4 f1
  obtain ⟨ca, cn, cc, ls, q2, s1, s2, s3, s4, s5⟩ := rows_open Try.underlying29 h63 (by omega) f2
  obtain ⟨ln, q3, _⟩ := DataW.trod_bool Try.underlying4 f3
  obtain ⟨ka, kn, kc, ks, q4, k1, k2, k3, k4, k5⟩ := rows_open Try.underlying30 h34 (by omega) f4
  obtain ⟨va, vn, vc, us, q5, u1, u2, u3, u4, u5⟩ := rows_open Try.underlying31 h1 (by omega) f5
  obtain ⟨old, q6, _, _⟩ := DataW.trod_int Try.underlying28 f6
  obtain ⟨lim, q7, _, wlim⟩ := DataW.trod_int Try.underlying3 f7
  obtain ⟨es, e1, e2⟩ := list_choose (fun i (y : Ent) => ls[i]? = some y.cells ∧ Dev y.D) cn fun i hi => by
    have hi' : i < ls.length := by omega
    obtain ⟨n, y, hy⟩ := s4 _ (List.getElem_mem hi')
    obtain ⟨z, hz, hD⟩ := ent_open hy
    exact ⟨z, by rw [List.getElem?_eq_getElem hi', hz], hD⟩
  obtain ⟨vs, v1, v2⟩ := list_choose (fun i (y : Int) => us[i]? = some [.int .u64 y] ∧ (Lit.int .u64 y).wf = true) vn fun i hi => by
    have hi' : i < us.length := by omega
    obtain ⟨n, y, hy⟩ := u4 _ (List.getElem_mem hi')
    obtain ⟨z, hz, _, hw⟩ := DataW.trod_int Try.underlying28 hy
    exact ⟨z, by rw [List.getElem?_eq_getElem hi', hz], hw⟩
  have r0 := take1 q0
  have r1 := take1 q1
  have r2 := take1 q2
  have r3 := take1 q3
  have r4 := take1 q4
  have r5 := take1 q5
  have r6 := take1 q6
  have r7 := take1 q7
  have r8 : cs.drop 8 = [] := List.drop_eq_nil_of_le (by omega)
  rw [List.drop_zero] at r0
  refine ⟨e, mk, ca, cc, es, ln, ka, va, kc, vc, ks, vs, old, lim, ?_, ⟨fun y hy => ?_, fun hne => ?_⟩, ⟨fun l hl' => ?_, fun hne => ?_⟩, ⟨fun v hv => ?_, fun hne => ?_⟩, by omega, by omega, by omega, we, wlim⟩
  · rw [r0, r1, r2, r3, r4, r5, r6, r7, r8, e1, k3, v1]
  · obtain ⟨i, hi⟩ := List.getElem?_of_mem hy
    exact (e2 i y hi).2
  · obtain ⟨b, off, z1, z2, z3⟩ := s5 (fun e' => hne (List.eq_nil_of_length_eq_zero (by rw [e1, ← s3, e']; rfl)))
    exact ⟨b, off, z1, z2, fun k y hk => z3 k _ (e2 k y hk).1⟩
  · obtain ⟨n, y, hy⟩ := k4 l hl'
    exact dev_open hy
  · exact k5 hne
  · obtain ⟨i, hi⟩ := List.getElem?_of_mem hv
    exact (v2 i v hi).2
  · obtain ⟨b, off, z1, z2, z3⟩ := u5 (fun e' => hne (List.eq_nil_of_length_eq_zero (by rw [v1, ← u3, e']; rfl)))
    refine ⟨b, off, z1, z2, fun k v hk => ?_⟩
    have := z3 k _ (v2 k v hk).1 0 (.int .u64 v) rfl
    simpa using this
end
end Go.Proofs.Qxb6603893a
