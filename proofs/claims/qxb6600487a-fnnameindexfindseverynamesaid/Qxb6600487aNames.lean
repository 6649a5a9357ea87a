import Derived.Test.Qxb6600487aIndex
import Derived.Test.Qxb6600487aRunsWalk
namespace Go.Proofs.Qxb6600487a
open Go.RowKit Dec Go.Maps
set_option linter.unusedVariables false

theorem Try.info9 : (Try.prog.info? 9).map (fun i => (i.zero, i.size, i.bytes)) = some (some (.string ⟨#[]⟩), 1, 16) := by kernel_rfl

theorem nil_eql29 (w : World) (a : Option Addr) (n c : Nat) : (binOp .eql 29 (.slice a n c) (.slice none 0 0)).run Try.prog w = .ok (.bool a.isNone) w :=
  Lib.run_eql_slice_nil (P := Try.prog) w 29 9 a n c 0 0 Try.underlying29

set_option maxHeartbeats 400000 in
theorem bytes13_nil (w : World) : Calls Try.prog 13 #[.slice none 0 0] w fun e w' => e = .returned (.bool true) ∧ w = w' := by
  go_enter Try.func13, Try.ntmps13
  go_wp2
  refine wp_loop_rounds 1 ?_
  rw [rounds_succ]
  go_wp2
  go_ret
  exact ⟨rfl, rfl⟩

set_option maxHeartbeats 400000 in
theorem bytes13_big (a : Option Addr) (n cap : Nat) (w : World) (hm : n ≤ maxLen) (h : 1048576 < n) : Calls Try.prog 13 #[.slice a n cap] w fun e w' => e = .returned (.bool false) ∧ w = w' := by
  unfold maxLen at hm
  go_enter Try.func13, Try.ntmps13
  go_wp2
  go_ret
  exact ⟨rfl, rfl⟩

set_option maxHeartbeats 400000 in
theorem bytes13_row (b off n cap : Nat) (ss : List ByteArray) (w : World) (hn : n ≤ 1048576) (hl : ss.length = n) (hz : ∀ s ∈ ss, s.size ≤ maxLen)
    (hc : ∀ j, j < n → w.cell? ⟨b, off + j, none⟩ = some (.string (nth9 ss j))) :
    Calls Try.prog 13 #[.slice (some ⟨b, off, none⟩) n cap] w fun e w' => (e = .returned (.bool false) ∨ (e = .returned (.bool true) ∧ ∀ j, j < n → (nth9 ss j).size ≤ 1048576)) ∧ w = w' := by
  have HC := hide hc
  have HZ : Hid (∀ j, j < n → (nth9 ss j).size ≤ maxLen) := fun j hj => hz _ (nth9_mem (by omega))
  clear hc hz hl
  go_enter Try.func13, Try.ntmps13
  go_wp2
  go_loop [3, 4] (fun z q => ∃ i t : Nat, z = .int .i64 t ∧ q = .int .i64 i ∧ i ≤ n ∧ t ≤ 1048576 ∧ Hid (∀ j, j < i → (nth9 ss j).size ≤ 1048576)) (fun _ q => n - (intOf q).toNat)
  case atStart => exact ⟨0, n, rfl, rfl, Nat.zero_le _, hn, fun j h => by omega⟩
  case round =>
    obtain ⟨i, t, rfl, rfl, hi, ht, HA⟩ := hrel
    by_cases hlt : i < n
    · have hci := HC.out i hlt
      have hzi := HZ.out i hlt
      unfold maxLen at hzi
      have HB : Hid ((nth9 ss i).size ≤ 1048576 → ∀ j, j < i + 1 → (nth9 ss j).size ≤ 1048576) := fun h j hj => by
        by_cases e : j = i
        · rw [e]; exact h
        · exact HA.out j (by omega)
      clear HA
      generalize nth9 ss i = s at hci hzi HB
      by_cases hs : 1048576 < s.size
      · go_wp2
        go_ret
        exact ⟨Or.inl rfl, rfl⟩
      · have HB2 := hide (HB.out (by omega))
        clear HB
        by_cases ht2 : 1048576 < t + s.size
        · go_wp2
          go_ret
          exact ⟨Or.inl rfl, rfl⟩
        · go_wp2
          go_round
          case rel => exact ⟨i + 1, t + s.size, by go_num, by go_num, by omega, by omega, HB2⟩
          case measure => simp [intOf]; omega
    · obtain rfl : n = i := by omega
      go_wp2
      go_ret
      exact ⟨Or.inr ⟨rfl, HA.out⟩, rfl⟩

set_option maxHeartbeats 400000 in
theorem clone14_nil (w : World) : Calls Try.prog 14 #[.slice none 0 0] w fun e w' => e = .returned (.slice none 0 0) ∧ w = w' := by
  have hnil := nil_eql29
  go_enter Try.func14, Try.ntmps14
  go_wp2
  go_ret
  exact ⟨rfl, rfl⟩

theorem getElem?_set_some' {ys : List Value} {k n : Nat} {v : Value} (hl : ys.length = n) (hk : k < n) (f : Nat → Value) (h : ∀ t, t < k → ys[t]? = some (f t)) (hv : v = f k) : ∀ t, t < k + 1 → (ys.set k v)[t]? = some (f t) := by
  intro t ht
  rw [List.getElem?_set]
  by_cases e : k = t
  · subst e; simp [hl, hk, hv]
  · rw [if_neg e]; exact h t (by omega)

set_option maxHeartbeats 400000 in
theorem clone14_row (b off n cap : Nat) (ss : List ByteArray) (w : World) (hn : n ≤ 1048576)
    (hc : ∀ j, j < n → w.cell? ⟨b, off + j, none⟩ = some (.string (nth9 ss j))) :
    Calls Try.prog 14 #[.slice (some ⟨b, off, none⟩) n cap] w fun e w' => e = .returned (.slice (some ⟨w.heap.size, 0, none⟩) n n) ∧ Below w.heap.size w w' ∧
      (∃ c : Array Value, w'.heap[w.heap.size]? = some (.cells c 9 (0, 0)) ∧ ∀ j, j < n → c[j]? = some (.string (nth9 ss j))) := by
  obtain ⟨i0, hi, hz0, hz1, hz2⟩ := info_parts Try.info9
  have hnil := nil_eql29
  have HC := hide hc
  clear hc
  go_enter Try.func14, Try.ntmps14
  go_wp2_with (at_make; refine wpList_make_full _ rfl _ _ 29 rfl w.heap.size 9 i0 (.string ⟨#[]⟩) 1 Try.underlying29 hi hz0 hz1 _ _ _ _ n rfl rfl rfl rfl (by rw [hz2]; omega) (by unfold maxLen; omega) (Nat.le_refl _) ?_)
  intro w1 hown hgrow
  have hbel : Below w.heap.size w w1 := (Below.refl _ _).grown hgrow (Nat.le_refl _) (by simp)
  clear hgrow
  go_wp2_with fail
  go_loopw [4] (fun t wr => ∃ (k : Nat) (ys : List Value), t = .int .i64 k ∧ k ≤ n ∧ Below w.heap.size w wr ∧ ys.length = n ∧ wr.ownsRow w.heap.size 9 1 (.slice (some ⟨w.heap.size, 0, none⟩) n n) n ys ∧ Hid (∀ t, t < k → ys[t]? = some (.string (nth9 ss t)))) (fun t _ => n - (intOf t).toNat)
  case atStart => exact ⟨0, _, rfl, Nat.zero_le _, hbel, by simpa using hown.1, hown, fun t h => by omega⟩
  case round =>
    obtain ⟨k, ys, rfl, hk, hb, hyl, hy, HY⟩ := hrel
    clear hown hbel
    by_cases hlt : k < n
    · have hs0 := HC.out k hlt
      have hbw : b < w.heap.size := World.block_lt_of_cell? w _ hs0
      have hs1 : wr.cell? ⟨b, off + k, none⟩ = some (.string (nth9 ss k)) := (hb.cell hbw).trans hs0
      obtain ⟨y, hy0⟩ : ∃ y, wr.cell? ⟨w.heap.size, k, none⟩ = some y := by
        rw [hy.cellAt k (by omega), List.getElem?_eq_getElem (by omega)]; exact ⟨_, rfl⟩
      have hf := hy.frozenAt k
      have HO' : Hid (∀ t, t < k + 1 → (ys.set k (.string (nth9 ss k)))[t]? = some (.string (nth9 ss t))) := getElem?_set_some' hyl hlt (fun t => .string (nth9 ss t)) HY.out rfl
      have hst := hy.stored k (.string (nth9 ss k))
      have hb' : Below w.heap.size w (wr.setCell ⟨w.heap.size, k, none⟩ (.string (nth9 ss k))) := hb.setCell (Nat.le_refl _) _
      generalize nth9 ss k = s at hs1 HO' hst hb'
      clear HY hy hs0
      go_wp2
      go_roundw
      case rel => exact ⟨k + 1, ys.set k (.string s), by go_num, by omega, hb', by simp [hyl], hst.1, HO'⟩
      case measure => simp [intOf]; omega
    · obtain rfl : n = k := by omega
      have HR : Hid (∃ c : Array Value, wr.heap[w.heap.size]? = some (.cells c 9 (0, 0)) ∧ ∀ j, j < n → c[j]? = some (.string (nth9 ss j))) := by
        rcases hy.2 with ⟨e, _⟩ | ⟨g', cp, cur, e, _, h3, _, _, h4, h5⟩
        · cases e
        · simp only [Value.slice.injEq, Option.some.injEq, Addr.mk.injEq, and_true, true_and] at e
          obtain ⟨rfl, rfl⟩ := e
          refine ⟨cur, h3, fun j hj => ?_⟩
          have := HY.out j hj
          rw [← h5, List.getElem?_take, if_pos (by omega)] at this
          simpa using this
      clear HY hy
      go_wp2
      go_ret
      exact ⟨rfl, hb, HR.out⟩

set_option maxHeartbeats 400000 in
/-- 'ZZNewNameIndex': an empty index. -/
theorem new15 (B : Nat) (w : World) (hB : B ≤ w.heap.size) :
    Calls Try.prog 15 #[] w fun e w' => e = .returned (.pointer (some ⟨w.heap.size + 1, 0, none⟩)) ∧ w' = (w.alloc (.map #[] 0)).alloc (.cells #[.slice none 0 0, .map (some w.heap.size), .int .i64 0] 56) := by
  have hmm := @run_makeMap Try.prog
  go_enter Try.func15, Try.ntmps15
  go_wp2
  go_ret
  exact ⟨rfl, rfl⟩
end Go.Proofs.Qxb6600487a
