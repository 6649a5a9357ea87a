import Derived.Test.Qxb6600487aField
namespace Go.Proofs.Qxb6600487a
open Go.RowKit
set_option linter.unusedVariables false

theorem nil_eql (w : World) (a : Option Addr) (n c : Nat) : (binOp .eql 22 (.slice a n c) (.slice none 0 0)).run Try.prog w = .ok (.bool a.isNone) w :=
  Lib.run_eql_slice_nil (P := Try.prog) w 22 5 a n c 0 0 Try.underlying22

set_option maxHeartbeats 400000 in
theorem clone_nil (w : World) : Calls Try.prog 9 #[.slice none 0 0] w fun e w' => e = .returned (.slice none 0 0) ∧ w = w' := by
  have hnil := nil_eql
  go_enter Try.func9, Try.ntmps9
  go_wp2
  go_ret
  exact ⟨rfl, rfl⟩

theorem getElem?_set_some {ys : List Value} {k n : Nat} {v : Value} (hl : ys.length = n) (hk : k < n) (f : Nat → Value) (h : ∀ t, t < k → ys[t]? = some (f t)) (hv : v = f k) : ∀ t, t < k + 1 → (ys.set k v)[t]? = some (f t) := by
  intro t ht
  rw [List.getElem?_set]
  by_cases e : k = t
  · subst e; simp [hl, hk, hv]
  · rw [if_neg e]; exact h t (by omega)

set_option maxHeartbeats 400000 in
theorem clone_some (x : Addr) (n cap : Nat) (xs : List Int) (w : World) (hn : n ≤ 2000000) (hx : xs.length = n)
    (hc : ∀ j u, (xs.map (Value.int .u8))[j]? = some u → w.cell? (x.add j) = some u) :
    Calls Try.prog 9 #[.slice (some x) n cap] w fun e w' => e = .returned (.slice (some ⟨w.heap.size, 0, none⟩) n n) ∧ Below w.heap.size w w' ∧ (∀ j, j < n → w'.cell? ⟨w.heap.size, j, none⟩ = some (.int .u8 (xs.getD j 0))) := by
  obtain ⟨i0, hi, hz0, hz1, hz2⟩ := info_parts Try.info5
  have hnil := nil_eql
  have hsrc : ∀ j, j < n → w.cell? (x.add j) = some (.int .u8 (xs.getD j 0)) := fun j hj => hc j _ (by
    rw [List.getElem?_map, List.getElem?_eq_getElem (by omega), List.getD_eq_getElem?_getD, List.getElem?_eq_getElem (by omega)]; rfl)
  clear hc
  obtain ⟨b, off, spot⟩ := x
  have hspot : 0 < n → spot = none := fun h => by simpa [Addr.add] using World.cell?_spot (hsrc 0 h)
  go_enter Try.func9, Try.ntmps9
  go_wp2_with (at_make; refine wpList_make_full _ rfl _ _ 22 rfl w.heap.size 5 i0 (.int .u8 0) 1 Try.underlying22 hi hz0 hz1 _ _ _ _ n rfl rfl rfl rfl (by rw [hz2]; omega) (by unfold maxLen; omega) (Nat.le_refl _) ?_)
  intro w1 hown hgrow
  have hbel : Below w.heap.size w w1 := (Below.refl _ _).grown hgrow (Nat.le_refl _) (by simp)
  have HX : Hid (xs.length = n) := hx
  clear hx hgrow
  go_wp2_with fail
  go_loopw [4] (fun t wr => ∃ (k : Nat) (ys : List Value), t = .int .i64 k ∧ k ≤ n ∧ Below w.heap.size w wr ∧ ys.length = n ∧ wr.ownsRow w.heap.size 5 1 (.slice (some ⟨w.heap.size, 0, none⟩) n n) n ys ∧ Hid (∀ t, t < k → ys[t]? = some (.int .u8 (xs.getD t 0)))) (fun t _ => n - (intOf t).toNat)
  case atStart => exact ⟨0, _, rfl, Nat.zero_le _, hbel, by simpa using hown.1, hown, fun t h => by omega⟩
  case round =>
    obtain ⟨k, ys, rfl, hk, hb, hyl, hy, HY⟩ := hrel
    clear hown hbel
    by_cases hlt : k < n
    · obtain rfl := hspot (by omega)
      have hs0 := hsrc k hlt
      rw [Addr.add_lit] at hs0
      have hbw : b < w.heap.size := World.block_lt_of_cell? w _ hs0
      have hs1 : wr.cell? ⟨b, off + k, none⟩ = some (.int .u8 (xs.getD k 0)) := (hb.cell hbw).trans hs0
      obtain ⟨y, hy0⟩ : ∃ y, wr.cell? ⟨w.heap.size, k, none⟩ = some y := by
        rw [hy.cellAt k (by omega), List.getElem?_eq_getElem (by omega)]; exact ⟨_, rfl⟩
      have hf := hy.frozenAt k
      generalize hcv : xs.getD k 0 = c at *
      have hst := hy.stored k (.int .u8 c)
      have HO := getElem?_set_some (v := .int .u8 c) hyl hlt (fun t => .int .u8 (xs.getD t 0)) HY.out (by rw [hcv])
      have HO' : Hid (∀ t, t < k + 1 → (ys.set k (.int .u8 c))[t]? = some (.int .u8 (xs.getD t 0))) := HO
      have hb' : Below w.heap.size w (wr.setCell ⟨w.heap.size, k, none⟩ (.int .u8 c)) := hb.setCell (Nat.le_refl _) _
      clear HO HY hy hsrc hs0
      go_wp2
      go_roundw
      case rel => exact ⟨k + 1, ys.set k (.int .u8 c), by go_num, by omega, hb', by simp [hyl], hst.1, HO'⟩
      case measure => simp [intOf]; omega
    · obtain rfl : k = n := by omega
      clear hsrc
      go_wp2
      go_ret
      exact ⟨rfl, hb, fun j hj => by rw [hy.cellAt j (by omega), HY.out j hj]⟩
end Go.Proofs.Qxb6600487a
