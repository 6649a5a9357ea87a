import Derived.Test.Qxb6600487aRunsWalk
namespace Go.Proofs.Qxb6600487a
open Go.RowKit
set_option linter.unusedVariables false

set_option maxRecDepth 100000 in
set_option maxHeartbeats 2000000 in
/-- The law over a slice that is not nil: the first loop gathers 'starts' and 'ends'; the second goes from field to field. -/
theorem law4_row (x : Addr) (n cap : Nat) (xs : List Int) (w : World) (hn : n ≤ 4096) (hx : xs.length = n)
    (hc : ∀ j u, (xs.map (Value.int .u8))[j]? = some u → w.cell? (x.add j) = some u) :
    Calls Try.prog 4 #[.slice (some x) n cap] w fun e w' => e = .returned (.bool true) ∧ Below w.heap.size w w' := by
  have hnil := nil_eql
  have hmk := make0
  obtain ⟨i0, hi, hz0, hz1, hz2⟩ := info_parts Try.info3
  go_enter Try.func4, Try.ntmps4
  go_wp2_with (first | (go_at_call 12; refine (bytes12_ok _ _ _ _ (by omega)).mono ?_; rintro e w' ⟨rfl, rfl⟩))
  refine (clone_some x n cap xs _ (by omega) hx hc).mono ?_
  rintro e w1 ⟨rfl, hb, hcell⟩
  clear hc
  have hc := hcell
  clear hcell
  generalize hg : w.heap.size = g
  obtain ⟨X, HX⟩ : ∃ X : Nat → Int, Hid (X = fun j => xs.getD j 0) := ⟨_, rfl⟩
  have HC : Hid (∀ j, j < n → w1.cell? ⟨g, j, none⟩ = some (.int .u8 (X j))) := fun j hj => by rw [HX.out, ← hg]; exact hc j hj
  have HB : Hid (Below g w w1) := hg ▸ hb
  have HG : Hid (w.heap.size = g) := hg
  have HGS : Hid (g ≤ w1.heap.size) := hg ▸ hb.size
  clear hc hb hg hx HX
  go_wp2_with fail
  have HT0 : Two w1.heap.size w1 ((w1.alloc (.cells #[] 3)).alloc (.cells #[] 3)) (.slice (some ⟨w1.heap.size, 0, none⟩) 0 0) (.slice (some ⟨w1.heap.size + 1, 0, none⟩) 0 0) [] [] := by
    refine ⟨?_, ?_, ?_, ?_, ?_, ?_, ?_⟩
    · exact (World.ownsRow_made w1 #[] 0 (Nat.le_refl _) (by unfold maxLen; omega) (by simp)).alloc _
    · have := World.ownsRow_made (base := w1.heap.size) (e := 3) (size := 1) (w1.alloc (.cells #[] 3)) #[] 0 (by simp) (by unfold maxLen; omega) (by simp)
      simpa using this
    · simp [Value.ownBlock]
    · simp [Value.ownBlock]
    · simp [Value.ownBlock]
    · exact ((Below.refl _ _).alloc (Nat.le_refl _) _).alloc (by simp) _
    · simp; omega
  go_loopw [3, 4, 5] (fun v3 v4 t wr => ∃ (k : Nat) (A C : List Int), t = .int .i64 k ∧ k ≤ n ∧ A.length ≤ k ∧ C.length ≤ k ∧ Two w1.heap.size w1 wr v3 v4 A C ∧ Hid (A = starts X k) ∧ Hid (C = ends X n k)) (fun _ _ t _ => n - (intOf t).toNat)
  case atStart => exact ⟨0, [], [], rfl, Nat.zero_le _, Nat.le_refl _, Nat.le_refl _, HT0, rfl, rfl⟩
  case round =>
    obtain ⟨k, A, C, rfl, hk, hA, hC, HT, HA, HE⟩ := hrel
    clear HT0
    by_cases hlt : k < n
    · have hgw : g < w1.heap.size := World.block_lt_of_cell? w1 _ (HC.out k hlt)
      have HC2 : Hid (∀ j, j < n → wr.cell? ⟨g, j, none⟩ = some (.int .u8 (X j))) := fun j hj => (HT.below.cell (p := ⟨g, j, none⟩) hgw).trans (HC.out j hj)
      have hck := HC2.out k hlt
      cases hs : ws (X k)
      · have hS : (((k : Int) == 0) = true ∧ isS X k = true) ∨ (((k : Int) == 0) = false ∧ ws (X (k - 1)) = true ∧ isS X k = true ∧ 1 ≤ k) ∨ (((k : Int) == 0) = false ∧ ws (X (k - 1)) = false ∧ isS X k = false ∧ 1 ≤ k) := by
          by_cases h0 : k = 0
          · left; exact ⟨by simp [h0], by unfold isS; rw [hs, h0]; rfl⟩
          · right
            have e0 : (k == 0) = false := by simpa using h0
            cases h1 : ws (X (k - 1))
            · right; exact ⟨by simp; omega, rfl, by unfold isS; rw [hs, h1, e0]; rfl, by omega⟩
            · left; exact ⟨by simp; omega, rfl, by unfold isS; rw [hs, h1, e0]; rfl, by omega⟩
        have hE : (((k : Int) + 1 == (n : Int)) = true ∧ isE X n k = true) ∨ (((k : Int) + 1 == (n : Int)) = false ∧ ws (X (k + 1)) = true ∧ isE X n k = true ∧ k + 1 < n) ∨ (((k : Int) + 1 == (n : Int)) = false ∧ ws (X (k + 1)) = false ∧ isE X n k = false ∧ k + 1 < n) := by
          by_cases h0 : k + 1 = n
          · left; exact ⟨by simp; omega, by unfold isE; rw [hs]; simp [h0]⟩
          · right
            have e0 : (k + 1 == n) = false := by simpa using h0
            cases h1 : ws (X (k + 1))
            · right; exact ⟨by simp; omega, rfl, by unfold isE; rw [hs, h1, e0]; rfl, by omega⟩
            · left; exact ⟨by simp; omega, rfl, by unfold isE; rw [hs, h1, e0]; rfl, by omega⟩
        have HA1 : Hid (isS X k = true → A ++ [(k : Int)] = starts X (k + 1)) := fun h => by rw [starts_succ, h, HA.out]; rfl
        have HA0 : Hid (isS X k = false → A = starts X (k + 1)) := fun h => by rw [starts_succ, h, HA.out]; rfl
        have HE1 : Hid (isE X n k = true → C ++ [(k : Int) + 1] = ends X n (k + 1)) := fun h => by rw [ends_succ, h, HE.out]; rfl
        have HE0 : Hid (isE X n k = false → C = ends X n (k + 1)) := fun h => by rw [ends_succ, h, HE.out]; rfl
        clear HA HE
        have hcn : k + 1 < n → wr.cell? ⟨g, k + 1, none⟩ = some (.int .u8 (X (k + 1))) := fun hh => HC2.out (k + 1) hh
        have hcp : 1 ≤ k → wr.cell? ⟨g, k - 1, none⟩ = some (.int .u8 (X (k - 1))) := fun hh => HC2.out (k - 1) (by omega)
        rcases hS with ⟨b1, fS⟩ | ⟨b1, s1, fS, k1⟩ | ⟨b1, s1, fS, k1⟩
        rotate_right
        · have HAA : Hid (A = starts X (k + 1)) := HA0.out fS
          clear HA1 HA0 fS
          rcases hE with ⟨b2, fE⟩ | ⟨b2, s2, fE, k2⟩ | ⟨b2, s2, fE, k2⟩
          rotate_right
          · have HEE : Hid (C = ends X n (k + 1)) := HE0.out fE
            clear HE1 HE0 fE
            go_wp2_with (first | (go_at_call 11; refine (space11 _ _).mono ?_; rintro e w' ⟨rfl, rfl⟩; first | rw [hs] | rw [s1] | rw [s2]))
            go_roundw
            case rel => first | exact ⟨k + 1, A, C, by go_num, by omega, by first | omega | (simp; omega), by first | omega | (simp; omega), HT, HAA, HEE⟩ | ((repeat apply Exists.intro); exact ⟨⟨k + 1, A, C, by go_num, by omega, by first | omega | (simp; omega), by first | omega | (simp; omega), HT, HAA, HEE⟩, rfl⟩)
            case measure => simp [intOf]; omega
          all_goals
            have HEE : Hid (C ++ [(k : Int) + 1] = ends X n (k + 1)) := HE1.out fE
            clear HE1 HE0 fE
            go_wp2_with (first | (go_at_call 11; refine (space11 _ _).mono ?_; rintro e w' ⟨rfl, rfl⟩; first | rw [hs] | rw [s1] | rw [s2]) | (at_builtin; refine wpList_append_own_at _ rfl (.tmp 60) (.tmp 63) 28 rfl w1.heap.size 3 i0 (.int .i64 0) 1 8 Try.underlying28 hi hz0 hz1 hz2 rfl (by decide) _ _ _ rfl (HT.right.alloc _) ⟨wr.heap.size, 0, none⟩ 1 1 [.int .i64 ((k : Int) + 1)] rfl rfl (cell_one_new _ _ _) (ints_oneCell .i64 [(k : Int) + 1]) (by unfold maxLen; omega) (by omega) (Nat.le_trans HT.size (by simp)) ?_; intro v6 w6 q1 q2 q3 q4; have HT6 := HT.onRight q1 q2 q4; clear q1 q2 q3 q4))
            go_roundw
            case rel => first | exact ⟨k + 1, A, C ++ [(k : Int) + 1], by go_num, by omega, by first | omega | (simp; omega), by first | omega | (simp; omega), HT6, HAA, HEE⟩ | ((repeat apply Exists.intro); exact ⟨⟨k + 1, A, C ++ [(k : Int) + 1], by go_num, by omega, by first | omega | (simp; omega), by first | omega | (simp; omega), HT6, HAA, HEE⟩, rfl⟩)
            case measure => simp [intOf]; omega
        all_goals
          have HAA : Hid (A ++ [(k : Int)] = starts X (k + 1)) := HA1.out fS
          clear HA1 HA0 fS
          rcases hE with ⟨b2, fE⟩ | ⟨b2, s2, fE, k2⟩ | ⟨b2, s2, fE, k2⟩
          rotate_right
          · have HEE : Hid (C = ends X n (k + 1)) := HE0.out fE
            clear HE1 HE0 fE
            go_wp2_with (first | (go_at_call 11; refine (space11 _ _).mono ?_; rintro e w' ⟨rfl, rfl⟩; first | rw [hs] | rw [s1] | rw [s2]) | (at_builtin; refine wpList_append_own_at _ rfl (.tmp 43) (.tmp 45) 28 rfl w1.heap.size 3 i0 (.int .i64 0) 1 8 Try.underlying28 hi hz0 hz1 hz2 rfl (by decide) _ _ _ rfl (HT.left.alloc _) ⟨wr.heap.size, 0, none⟩ 1 1 [.int .i64 (k : Int)] rfl rfl (cell_one_new _ _ _) (ints_oneCell .i64 [(k : Int)]) (by unfold maxLen; omega) (by omega) (Nat.le_trans HT.size (by simp)) ?_; intro v5 w5 p1 p2 p3 p4; have HT5 := HT.onLeft p1 p2 p4; have hcn5 : k + 1 < n → w5.cell? ⟨g, k + 1, none⟩ = some (.int .u8 (X (k + 1))) := fun hh => (HT5.below.cell (p := ⟨g, k + 1, none⟩) hgw).trans (HC.out (k + 1) hh); clear p1 p2 p3 p4))
            go_roundw
            case rel => first | exact ⟨k + 1, A ++ [(k : Int)], C, by go_num, by omega, by first | omega | (simp; omega), by first | omega | (simp; omega), HT5, HAA, HEE⟩ | ((repeat apply Exists.intro); exact ⟨⟨k + 1, A ++ [(k : Int)], C, by go_num, by omega, by first | omega | (simp; omega), by first | omega | (simp; omega), HT5, HAA, HEE⟩, rfl⟩)
            case measure => simp [intOf]; omega
          all_goals
            have HEE : Hid (C ++ [(k : Int) + 1] = ends X n (k + 1)) := HE1.out fE
            clear HE1 HE0 fE
            go_wp2_with (first | (go_at_call 11; refine (space11 _ _).mono ?_; rintro e w' ⟨rfl, rfl⟩; first | rw [hs] | rw [s1] | rw [s2]) | (at_builtin; refine wpList_append_own_at _ rfl (.tmp 43) (.tmp 45) 28 rfl w1.heap.size 3 i0 (.int .i64 0) 1 8 Try.underlying28 hi hz0 hz1 hz2 rfl (by decide) _ _ _ rfl (HT.left.alloc _) ⟨wr.heap.size, 0, none⟩ 1 1 [.int .i64 (k : Int)] rfl rfl (cell_one_new _ _ _) (ints_oneCell .i64 [(k : Int)]) (by unfold maxLen; omega) (by omega) (Nat.le_trans HT.size (by simp)) ?_; intro v5 w5 p1 p2 p3 p4; have HT5 := HT.onLeft p1 p2 p4; have hcn5 : k + 1 < n → w5.cell? ⟨g, k + 1, none⟩ = some (.int .u8 (X (k + 1))) := fun hh => (HT5.below.cell (p := ⟨g, k + 1, none⟩) hgw).trans (HC.out (k + 1) hh); clear p1 p2 p3 p4) | (at_builtin; refine wpList_append_own_at _ rfl (.tmp 60) (.tmp 63) 28 rfl w1.heap.size 3 i0 (.int .i64 0) 1 8 Try.underlying28 hi hz0 hz1 hz2 rfl (by decide) _ _ _ rfl (HT5.right.alloc _) ⟨w5.heap.size, 0, none⟩ 1 1 [.int .i64 ((k : Int) + 1)] rfl rfl (cell_one_new _ _ _) (ints_oneCell .i64 [(k : Int) + 1]) (by unfold maxLen; omega) (by omega) (Nat.le_trans HT5.size (by simp)) ?_; intro v6 w6 q1 q2 q3 q4; have HT6 := HT5.onRight q1 q2 q4; clear q1 q2 q3 q4))
            go_roundw
            case rel => first | exact ⟨k + 1, A ++ [(k : Int)], C ++ [(k : Int) + 1], by go_num, by omega, by first | omega | (simp; omega), by first | omega | (simp; omega), HT6, HAA, HEE⟩ | ((repeat apply Exists.intro); exact ⟨⟨k + 1, A ++ [(k : Int)], C ++ [(k : Int) + 1], by go_num, by omega, by first | omega | (simp; omega), by first | omega | (simp; omega), HT6, HAA, HEE⟩, rfl⟩)
            case measure => simp [intOf]; omega
      · have HAA : Hid (A = starts X (k + 1)) := by show _ = _; rw [starts_succ, HA.out]; simp [isS, hs]
        have HEE : Hid (C = ends X n (k + 1)) := by show _ = _; rw [ends_succ, HE.out]; simp [isE, hs]
        clear HA HE
        go_wp2_with (first | (go_at_call 11; refine (space11 _ _).mono ?_; rintro e w' ⟨rfl, rfl⟩; first | rw [hs] | rw [s1] | rw [s2]))
        go_roundw
        case rel => first | exact ⟨k + 1, A, C, by go_num, by omega, by first | omega | (simp; omega), by first | omega | (simp; omega), HT, HAA, HEE⟩ | ((repeat apply Exists.intro); exact ⟨⟨k + 1, A, C, by go_num, by omega, by first | omega | (simp; omega), by first | omega | (simp; omega), HT, HAA, HEE⟩, rfl⟩)
        case measure => simp [intOf]; omega
    · obtain rfl : n = k := by omega
      obtain ⟨gs, cS, rfl, hSc⟩ := own_shape HT.left HT.nl
      obtain ⟨ge, cE, rfl, hEc⟩ := own_shape HT.right HT.nr
      have HM0 : Mem w g n gs ge X A C wr := ⟨fun j hj => (HT.below.cell (p := ⟨g, j, none⟩) (World.block_lt_of_cell? w1 _ (HC.out j hj))).trans (HC.out j hj), hSc, hEc, HB.out.trans (HT.below.mono HGS.out)⟩
      clear hSc hEc HC HB HT HGS hmk hlt
      have hLn : A.length ≤ 4096 := by omega
      have hCn : C.length ≤ 4096 := by omega
      clear hA hC
      have HAE : Hid (A = starts X n ∧ C = ends X n n) := ⟨HA.out, HE.out⟩
      clear HA HE
      go_wp2_with fail
      go_loopw [6, 7] (fun v t wr => ∃ (c m tt : Nat) (r : Addr), t = .int .i64 tt ∧ v = .slice (some r) m m ∧ m + c ≤ n ∧ n ≤ m + c ∧ tt ≤ A.length ∧ Hid (c < n → r = ⟨g, c, none⟩) ∧ Hid (Edge X n c ∧ tt = cnt (isS X) c ∧ tt = cnt (isE X n) c) ∧ Mem w g n gs ge X A C wr) (fun _ t _ => A.length + 1 - (intOf t).toNat)
      case atStart => exact ⟨0, n, 0, _, rfl, rfl, by omega, by omega, Nat.zero_le _, fun _ => rfl, ⟨⟨Nat.zero_le _, Or.inl rfl⟩, rfl, rfl⟩, HM0⟩
      case round =>
        obtain ⟨c, m, tt, r, rfl, rfl, hm1, hm2, htt, HR, HD, HM⟩ := hrel
        clear HM0
        by_cases hm0 : m = 0
        · subst hm0
          have hL : ((tt : Int) == (A.length : Int)) = true := by
            obtain rfl : c = n := by omega
            simp; rw [HD.out.2.1, HAE.out.1, starts_length]
          go_wp2_with (go_at_call 10; refine (zfield_empty _ _ _).mono ?_; rintro e w' ⟨rfl, rfl⟩)
          go_ret
          exact ⟨rfl, HG.out ▸ HM.below⟩
        · obtain rfl := HR.out (by omega)
          clear HR
          have hcx : ∀ t, t < m → wr.cell? ⟨g, c + t, none⟩ = some (.int .u8 ((fun u => X (c + u)) t)) := fun t ht => HM.bytes (c + t) (by omega)
          have HCX : Hid (∀ t, t < m → wr.cell? ⟨g, c + t, none⟩ = some (.int .u8 ((fun u => X (c + u)) t))) := hcx
          clear hcx
          go_wp2_with fail
          refine (zfield_row g c m m (fun u => X (c + u)) _ (by omega) (Nat.le_refl _) (by unfold maxLen; omega) HCX.out).mono ?_
          rintro e w' ⟨⟨q, rfl⟩, h⟩
          clear HCX
          have HM2 := HM.drewN q
          generalize wr.drewN q = w2 at HM2 ⊢
          clear HM
          obtain rfl : m = n - c := by omega
          rcases h with ⟨h1, rfl⟩ | ⟨i, j, r, h1, h2, rfl⟩
          · have hL : ((tt : Int) == (A.length : Int)) = true := by
              have := over_white (n := n) (c := c) (by omega) h1
              simp; rw [HD.out.2.1, HAE.out.1, starts_length, this]
            clear h1
            go_wp2
            go_ret
            exact ⟨rfl, HG.out ▸ HM2.below⟩
          · obtain ⟨o1, o2, o3, o4, o5⟩ := one_on HD.out.1 h1 HD.out.2.1 HD.out.2.2
            rw [← HAE.out.1] at o1
            rw [← HAE.out.2] at o2
            obtain ⟨t1, g1⟩ := getD_of o1
            obtain ⟨t2, g2⟩ := getD_of o2
            obtain ⟨hij, hjm, _, _, _⟩ := h1
            obtain ⟨a, ha⟩ : ∃ a, a = c + i := ⟨_, rfl⟩
            obtain ⟨b, hb⟩ : ∃ b, b = c + j := ⟨_, rfl⟩
            obtain ⟨lf, hlf⟩ : ∃ lf, lf = j - i := ⟨_, rfl⟩
            obtain ⟨cf, hcf⟩ : ∃ cf, cf = n - c - i := ⟨_, rfl⟩
            obtain ⟨lr, hlr⟩ : ∃ lr, lr = n - c - j := ⟨_, rfl⟩
            rw [← ha] at g1
            rw [← hb] at g2 o3 o4 o5
            rw [← ha, ← hlf, ← hcf, ← hlr]
            have HNX : Hid (Edge X n b ∧ tt + 1 = cnt (isS X) b ∧ tt + 1 = cnt (isE X n) b) := ⟨o3, o4, o5⟩
            have HR2 : Hid (b < n → r = ⟨g, b, none⟩) := fun h => by rw [hb]; exact h2 (by omega)
            have q1 : a + lf ≤ b := by omega
            have q2 : b ≤ a + lf := by omega
            have q3 : b + lr ≤ n := by omega
            have q4 : n ≤ b + lr := by omega
            clear h2 o1 o2 o3 o4 o5 ha hb hlf hcf hlr hij hjm HD HAE hm1 hm2 hm0
            have e1 := HM2.left tt t1
            rw [g1] at e1
            have e2 := HM2.right tt t2
            rw [g2] at e2
            clear g1 g2
            have HE1 : Hid (∀ wx, Mem w g n gs ge X A C wx → wx.cell? ⟨gs, tt, none⟩ = some (.int .i64 (a : Int)) ∧ wx.cell? ⟨ge, tt, none⟩ = some (.int .i64 (b : Int))) := fun wx hx => by
              have f1 := hx.left tt t1
              have f2 := hx.right tt t2
              have k1 := e1
              have k2 := e2
              rw [HM2.left tt t1] at k1
              rw [HM2.right tt t2] at k2
              rw [f1, f2]
              exact ⟨k1, k2⟩
            have d1 : ((tt : Int) == (A.length : Int)) = false := by simp; omega
            have d2 : ((lf : Int) != (b : Int) - (a : Int)) = false := by simp; omega
            have d3 : (0 : Int) ≤ (tt : Int) := by omega
            have d4 : (tt : Int) < (A.length : Int) := by omega
            have d5 : (tt : Int) < (C.length : Int) := by omega
            go_wp2_with fail
            go_quiet (fail)
            go_wp2_with fail
            have HM3 := HM2.drewN nq
            generalize w2.drewN nq = w3 at HM3 ⊢
            clear HM2 e1 e2
            go_loopw [10] (fun t wr => ∃ v : Nat, t = .int .i64 v ∧ v ≤ lf ∧ Mem w g n gs ge X A C wr) (fun t _ => lf - (intOf t).toNat)
            case atStart => exact ⟨0, rfl, Nat.zero_le _, HM3⟩
            case round =>
              obtain ⟨v, rfl, hv, HM4⟩ := hrel
              clear HM3
              obtain ⟨e1, e2⟩ := HE1.out wr HM4
              by_cases hlv : v < lf
              · have hcv := HM4.bytes (a + v) (by omega)
                go_wp2_with fail
                go_quiet (fail)
                go_wp2
                go_roundw
                case rel => exact ⟨v + 1, by go_num, by omega, HM4.drewN nq⟩
                case measure => simp [intOf]; omega
              · obtain rfl : lf = v := by omega
                have d6 : ((lr : Int) != (n : Int) - (b : Int)) = false := by simp; omega
                go_wp2_with fail
                clear e1 e2
                go_loopw [11] (fun t wr => ∃ z : Nat, t = .int .i64 z ∧ z ≤ lr ∧ Mem w g n gs ge X A C wr) (fun t _ => lr - (intOf t).toNat)
                case atStart => exact ⟨0, rfl, Nat.zero_le _, HM4⟩
                case round =>
                  obtain ⟨z, rfl, hz, HM5⟩ := hrel
                  clear HM4
                  obtain ⟨e1, e2⟩ := HE1.out wr HM5
                  by_cases hlz : z < lr
                  · have hcz := HM5.bytes (b + z) (by omega)
                    obtain rfl := HR2.out (by omega)
                    go_wp2_with fail
                    go_quiet (fail)
                    go_wp2
                    go_roundw
                    case rel => exact ⟨z + 1, by go_num, by omega, HM5.drewN nq⟩
                    case measure => simp [intOf]; omega
                  · obtain rfl : lr = z := by omega
                    go_wp2
                    go_roundw
                    case rel => exact ⟨b, lr, tt + 1, r, by go_num, rfl, by omega, by omega, by omega, HR2, HNX, HM5⟩
                    case measure => simp [intOf]; omega
end Go.Proofs.Qxb6600487a
