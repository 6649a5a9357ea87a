import Derived.Test.Qxb6600487aClone
namespace Go.Proofs.Qxb6600487a
open Go.RowKit
set_option linter.unusedVariables false

set_option maxHeartbeats 400000 in
theorem bytes8_ok (a : Option Addr) (n cap : Nat) (w : World) (h : n ≤ 1048576) :
    Calls Try.prog 8 #[.slice a n cap] w fun e w' => e = .returned (.bool true) ∧ w = w' := by
  go_enter Try.func8, Try.ntmps8
  go_wp2
  go_ret
  exact ⟨rfl, rfl⟩

set_option maxHeartbeats 400000 in
theorem zfield_nil (w : World) :
    Calls Try.prog 10 #[.slice none 0 0] w fun e w' => e = .returned (.tuple #[.slice none 0 0, .slice none 0 0]) ∧ w = w' := by
  go_enter Try.func10, Try.ntmps10
  go_wp2
  refine wp_loop_rounds 1 ?_
  rw [rounds_succ]
  go_wp2
  refine wp_loop_rounds 1 ?_
  rw [rounds_succ]
  go_wp2
  go_ret2
  exact ⟨rfl, rfl⟩

set_option maxHeartbeats 400000 in
theorem zfield_row (g o m cap : Nat) (X : Nat → Int) (w : World) (hm : m ≤ 2000000) (hmc : m ≤ cap) (hcap : cap ≤ maxLen)
    (hc : ∀ t, t < m → w.cell? ⟨g, o + t, none⟩ = some (.int .u8 (X t))) :
    Calls Try.prog 10 #[.slice (some ⟨g, o, none⟩) m cap] w fun e w' => (∃ k, w' = w.drewN k) ∧ FieldEnd X m g o cap e := by
  go_enter Try.func10, Try.ntmps10
  go_wp2_with fail
  refine (field_row g o m cap X _ hm hmc hcap hc).mono ?_
  rintro e w' ⟨⟨k, rfl⟩, h⟩
  rcases h with ⟨h1, rfl⟩ | ⟨i, j, r, h1, h2, rfl⟩
  · have H : Hid (FieldEnd X m g o cap (.returned (.tuple #[.slice none 0 0, .slice none 0 0]))) := Or.inl ⟨h1, rfl⟩
    clear h1 hc
    go_wp2
    go_ret2
    exact ⟨⟨k, rfl⟩, H.out⟩
  · have H : Hid (FieldEnd X m g o cap (.returned (.tuple #[.slice (some ⟨g, o + i, none⟩) (j - i) (cap - i), .slice (some r) (m - j) (cap - j)]))) := Or.inr ⟨i, j, r, h1, h2, rfl⟩
    clear h1 h2 hc
    go_wp2
    go_ret2
    exact ⟨⟨k, rfl⟩, H.out⟩

set_option maxHeartbeats 400000 in
theorem law3_big (a : Option Addr) (n cap : Nat) (w : World) (hm : n ≤ maxLen) (h : 1048576 < n) :
    Calls Try.prog 3 #[.slice a n cap] w fun e w' => e = .returned (.bool true) ∧ w = w' := by
  unfold maxLen at hm
  go_enter Try.func3, Try.ntmps3
  go_wp2
  go_ret
  exact ⟨rfl, rfl⟩

set_option maxHeartbeats 400000 in
theorem law3_nil (w : World) :
    Calls Try.prog 3 #[.slice none 0 0] w fun e w' => e = .returned (.bool true) ∧ w = w' := by
  have hnil := nil_eql
  go_enter Try.func3, Try.ntmps3
  go_wp2_with (first | (go_at_call 8; refine (bytes8_ok _ _ _ _ (by omega)).mono ?_; rintro e w' ⟨rfl, rfl⟩) | (go_at_call 9; refine (clone_nil _).mono ?_; rintro e w' ⟨rfl, rfl⟩) | (go_at_call 10; refine (zfield_nil _).mono ?_; rintro e w' ⟨rfl, rfl⟩))
  refine wp_loop_rounds 1 ?_
  rw [rounds_succ]
  go_wp2
  go_ret
  exact ⟨rfl, rfl⟩
theorem space11q (c : Int) (b : Bool) (hb : ws c = b) (w : World) : Calls Try.prog 11 #[.int .u8 c] w fun e w' => e = .returned (.bool b) ∧ w' = w :=
  (space11 c w).mono fun e w' h => ⟨by rw [h.1, hb], h.2.symm⟩

set_option maxHeartbeats 1000000 in
theorem law3_row (x : Addr) (n cap : Nat) (xs : List Int) (w : World) (hn : n ≤ 1048576) (hx : xs.length = n)
    (hc : ∀ j u, (xs.map (Value.int .u8))[j]? = some u → w.cell? (x.add j) = some u) :
    Calls Try.prog 3 #[.slice (some x) n cap] w fun e w' => e = .returned (.bool true) ∧ Below w.heap.size w w' := by
  have hnil := nil_eql
  go_enter Try.func3, Try.ntmps3
  go_wp2_with (first | (go_at_call 8; refine (bytes8_ok _ _ _ _ (by omega)).mono ?_; rintro e w' ⟨rfl, rfl⟩))
  refine (clone_some x n cap xs _ (by omega) hx hc).mono ?_
  rintro e w1 ⟨rfl, hb, hcell⟩
  clear hc
  have hc := hcell
  clear hcell
  generalize hg : w.heap.size = g
  obtain ⟨X, HX⟩ : ∃ X : Nat → Int, Hid (X = fun j => xs.getD j 0) := ⟨_, rfl⟩
  have HC : Hid (∀ j, j < n → w1.cell? ⟨g, j, none⟩ = some (.int .u8 (X j))) := fun j hj => by rw [HX.out, ← hg]; exact hc j hj
  have HB : Hid (Below g w w1) := hg ▸ hb
  have HG : Hid (w.heap.size = g) := hg
  clear hc hb hg hx HX
  go_wp2_with fail
  refine (zfield_row g 0 n n X _ (by omega) (Nat.le_refl _) (by unfold maxLen; omega) (fun t ht => by rw [Nat.zero_add]; exact HC.out t ht)).mono ?_
  rintro e w' ⟨⟨q, rfl⟩, h⟩
  have HC2 : Hid (∀ j, j < n → (w1.drewN q).cell? ⟨g, j, none⟩ = some (.int .u8 (X j))) := HC
  have HB2 : Hid (Below g w (w1.drewN q)) := below_drewN HB q
  generalize w1.drewN q = w2 at HC2 HB2 ⊢
  clear HC HB
  rcases h with ⟨h1, rfl⟩ | ⟨i, j, r, h1, h2, rfl⟩
  · have H1 : Hid (AllWs X n) := h1
    clear h1
    go_wp2_with fail
    go_loop [5, 6] (fun v t => ∃ k : Nat, v = .bool true ∧ t = .int .i64 k ∧ k ≤ n) (fun _ t => n - (intOf t).toNat)
    case atStart => exact ⟨0, rfl, rfl, Nat.zero_le _⟩
    case round =>
      obtain ⟨k, rfl, rfl, hk⟩ := hrel
      by_cases hlt : k < n
      · have hck := HC2.out k hlt
        have hs := H1.out k hlt
        go_wp2_with (go_at_call 11; refine (space11 _ _).mono ?_; rintro e w' ⟨rfl, rfl⟩; rw [hs])
        go_round
        case rel => first | exact ⟨k + 1, rfl, by go_num, by omega⟩ | (refine ⟨trivial, ?_⟩; (repeat apply Exists.intro); exact ⟨⟨k + 1, rfl, by go_num, by omega⟩, rfl⟩)
        case measure => simp [intOf]; omega
      · go_wp2
        go_ret
        exact ⟨rfl, HG.out ▸ HB2.out⟩
  · have H1 : Hid (FieldAt X n i j) := h1
    have H2 : Hid (j < n → r = ⟨g, 0 + j, none⟩) := h2
    obtain ⟨hij, hjn, _, _, _⟩ := h1
    clear h2
    obtain ⟨lf, hlf⟩ : ∃ lf, lf = j - i := ⟨_, rfl⟩
    obtain ⟨lr, hlr⟩ : ∃ lr, lr = n - j := ⟨_, rfl⟩
    have HF : Hid (lf = j - i) := hlf
    have HR : Hid (lr = n - j) := hlr
    have hp : (n : Int) - (lf : Int) - (lr : Int) = (i : Int) := by omega
    have hf1 : i + lf ≤ j := by omega
    have hf2 : j ≤ i + lf := by omega
    have hr1 : j + lr ≤ n := by omega
    have hr2 : n ≤ j + lr := by omega
    have hlf0 : ((lf : Int) == 0) = false := by simp; omega
    rw [← hlf, ← hlr, Nat.zero_add]
    clear hlf hlr
    go_wp2_with fail
    go_loop [5, 6] (fun v t => ∃ k : Nat, v = .bool (decide (k ≤ i)) ∧ t = .int .i64 k ∧ k ≤ n) (fun _ t => n - (intOf t).toNat)
    case atStart => exact ⟨0, by simp, rfl, Nat.zero_le _⟩
    case round =>
      obtain ⟨k, rfl, rfl, hk⟩ := hrel
      by_cases hlt : k < n
      · have hck := HC2.out k hlt
        by_cases hki : k < i
        · have hs := H1.out.2.2.1 k hki
          have e1 : decide (k ≤ i) = true := by simp; omega
          have e2 : decide (k + 1 ≤ i) = true := by simp; omega
          rw [e1]
          go_wp2_with (go_at_call 11; refine (space11 _ _).mono ?_; rintro e w' ⟨rfl, rfl⟩; rw [hs])
          go_round
          case rel => first | exact ⟨k + 1, by rw [e2], by go_num, by omega⟩ | (refine ⟨trivial, ?_⟩; (repeat apply Exists.intro); exact ⟨⟨k + 1, by rw [e2], by go_num, by omega⟩, rfl⟩)
          case measure => simp [intOf]; omega
        · have e2 : decide (k + 1 ≤ i) = false := by simp; omega
          have hz : (∃ b : Bool, decide (k ≤ i) = b ∧ ws (X k) = false) ∨ (decide (k ≤ i) = false ∧ ws (X k) = true) := by
            by_cases hk2 : k = i
            · exact Or.inl ⟨_, rfl, by rw [hk2]; exact H1.out.2.2.2.1 i (Nat.le_refl _) hij⟩
            · cases hs : ws (X k)
              · exact Or.inl ⟨_, rfl, rfl⟩
              · exact Or.inr ⟨by simp; omega, rfl⟩
          rcases hz with ⟨b, e1, hs⟩ | ⟨e1, hs⟩
          all_goals
            rw [e1]
            go_wp2_with (go_at_call 11; refine (space11 _ _).mono ?_; rintro e w' ⟨rfl, rfl⟩; rw [hs])
            go_round
            case rel => first | exact ⟨k + 1, by rw [e2], by go_num, by omega⟩ | (refine ⟨trivial, ?_⟩; (repeat apply Exists.intro); exact ⟨⟨k + 1, by rw [e2], by go_num, by omega⟩, rfl⟩)
            case measure => simp [intOf]; omega
      · obtain rfl : k = n := by omega
        have e1 : decide (k ≤ i) = false := by simp; omega
        have e3 : decide ((i : Int) < 0) = false := by simp
        rw [e1]
        clear e1
        go_wp2_with fail
        clear e3 hlf0
        go_loop [8] (fun t => ∃ u : Nat, t = .int .i64 u ∧ u ≤ i) (fun t => i - (intOf t).toNat)
        case atStart => exact ⟨0, rfl, Nat.zero_le _⟩
        case round =>
          obtain ⟨u, rfl, hu⟩ := hrel
          by_cases hlu : u < i
          · have hcu := HC2.out u (by omega)
            have hs := H1.out.2.2.1 u hlu
            go_wp2_with (go_at_call 11; refine (space11 _ _).mono ?_; rintro e w' ⟨rfl, rfl⟩; rw [hs])
            go_round
            case rel => first | exact ⟨u + 1, by go_num, by omega⟩ | (refine ⟨trivial, ?_⟩; (repeat apply Exists.intro); exact ⟨⟨u + 1, by go_num, by omega⟩, rfl⟩)
            case measure => simp [intOf]; omega
          · obtain rfl : u = i := by omega
            go_wp2_with fail
            go_loopw [9] (fun t wr => ∃ v : Nat, t = .int .i64 v ∧ v ≤ lf ∧ Hid (∀ j, j < k → wr.cell? ⟨g, j, none⟩ = some (.int .u8 (X j))) ∧ Hid (Below g w wr)) (fun t _ => lf - (intOf t).toNat)
            case atStart => exact ⟨0, rfl, Nat.zero_le _, HC2, HB2⟩
            case round =>
              obtain ⟨v, rfl, hv, HC3, HB3⟩ := hrel
              clear HC2 HB2
              by_cases hlv : v < lf
              · have hcv := HC3.out (u + v) (by omega)
                have hs := H1.out.2.2.2.1 (u + v) (by omega) (by omega)
                go_wp2_with fail
                go_quiet ((go_at_call 11; exact Calls.quiet_of_same (space11q _ _ hs _)))
                go_wp2
                go_roundw
                case rel => exact ⟨v + 1, by go_num, by omega, HC3, below_drewN HB3 nq⟩
                case measure => simp [intOf]; omega
              · obtain rfl : v = lf := by omega
                go_wp2_with fail
                go_loopw [10] (fun t wr => ∃ z : Nat, t = .int .i64 z ∧ z ≤ lr ∧ Hid (∀ j, j < k → wr.cell? ⟨g, j, none⟩ = some (.int .u8 (X j))) ∧ Hid (Below g w wr)) (fun t _ => lr - (intOf t).toNat)
                case atStart => exact ⟨0, rfl, Nat.zero_le _, HC3, HB3⟩
                case round =>
                  obtain ⟨z, rfl, hz, HC4, HB4⟩ := hrel
                  clear HC3 HB3
                  by_cases hlz : z < lr
                  · have hcz := HC4.out (j + z) (by omega)
                    have hcz' : wr.cell? ⟨g, u + v + z, none⟩ = some (.int .u8 (X (j + z))) := by rw [show u + v + z = j + z by omega]; exact hcz
                    obtain rfl := H2.out (by omega)
                    rw [Nat.zero_add]
                    go_wp2_with fail
                    go_quiet (fail)
                    go_wp2
                    go_roundw
                    case rel => exact ⟨z + 1, by go_num, by omega, HC4, below_drewN HB4 nq⟩
                    case measure => simp [intOf]; omega
                  · obtain rfl : z = lr := by omega
                    by_cases hz0 : z = 0
                    · have hd : ((z : Int) == 0) = true := by simp; omega
                      go_wp2
                      go_ret
                      exact ⟨rfl, HG.out ▸ HB4.out⟩
                    · have hd : ((z : Int) == 0) = false := by simp; omega
                      have hcz := HC4.out j (by omega)
                      obtain rfl := H2.out (by omega)
                      have hs := H1.out.2.2.2.2 (by omega)
                      rw [Nat.zero_add]
                      go_wp2_with (go_at_call 11; refine (space11 _ _).mono ?_; rintro e w' ⟨rfl, rfl⟩; rw [hs])
                      go_ret
                      exact ⟨rfl, HG.out ▸ HB4.out⟩
end Go.Proofs.Qxb6600487a
