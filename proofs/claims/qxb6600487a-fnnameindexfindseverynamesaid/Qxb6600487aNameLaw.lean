import Derived.Test.Qxb6600487aEnds
namespace Go.Proofs.Qxb6600487a
open Go.RowKit Dec Go.Maps
set_option linter.unusedVariables false

set_option maxRecDepth 100000 in
set_option maxHeartbeats 2000000 in
theorem law5_row (b off n cap : Nat) (ss : List ByteArray) (w : World) (hn : n ≤ 65536) (hl : ss.length = n) (hz : ∀ s ∈ ss, s.size ≤ maxLen)
    (hc : ∀ j, j < n → w.cell? ⟨b, off + j, none⟩ = some (.string (nth9 ss j))) :
    Calls Try.prog 5 #[.slice (some ⟨b, off, none⟩) n cap] w fun e w' => e = .returned (.bool true) ∧ Below w.heap.size w w' := by
  have hnil := nil_eql29
  have hmk := make0
  have hmm := @run_makeMap Try.prog
  obtain ⟨i0, hi, hz0, hz1, hz2⟩ := info_parts Try.info3
  have HC := hide hc
  have HZ := hide hz
  have HL := hide hl
  clear hc hz hl
  go_enter Try.func5, Try.ntmps5
  go_wp2_with fail
  refine (bytes13_row b off n cap ss _ (by omega) HL.out HZ.out HC.out).mono ?_
  rintro e w' ⟨h, rfl⟩
  rcases h with rfl | ⟨rfl, hsz⟩
  · go_wp2
    go_ret
    exact ⟨rfl, Below.refl _ _⟩
  have HS := hide hsz
  clear hsz HZ HL
  go_wp2_with fail
  go_loop [3, 4] (fun z q => ∃ i t : Nat, z = .int .i64 t ∧ q = .int .i64 i ∧ i ≤ n ∧ t ≤ 1048576) (fun _ q => n - (intOf q).toNat)
  case atStart => exact ⟨0, 0, rfl, rfl, Nat.zero_le _, by omega⟩
  case round =>
    obtain ⟨i, t, rfl, rfl, hi', ht⟩ := hrel
    by_cases hlt : i < n
    · have hci := HC.out i hlt
      have hsi := HS.out i hlt
      generalize nth9 ss i = s at hci hsi
      by_cases ht2 : 1048576 < t + (16 + s.size)
      · go_wp2
        go_ret
        exact ⟨rfl, Below.refl _ _⟩
      · go_wp2
        go_round
        case rel => exact ⟨i + 1, t + (16 + s.size), by go_num, by go_num, by omega, by omega⟩
        case measure => simp [intOf]; omega
    · obtain rfl : n = i := by omega
      clear hlt hi'
      go_wp2_with fail
      refine (clone14_row b off n cap ss _ (by omega) HC.out).mono ?_
      rintro e w1 ⟨rfl, hb, hnm⟩
      clear HC
      generalize hg : w.heap.size = g
      have HB : Hid (Below g w w1) := hg ▸ hb
      have HG : Hid (w.heap.size = g) := hg
      have HN : Hid (NamesAt w1 g n ss) := hg ▸ hnm
      have HGS : Hid (g < w1.heap.size) := by
        obtain ⟨c, h1, _⟩ := HN.out
        exact lt_of_heap h1
      clear hb hnm hg
      go_wp2_with fail
      refine (new15 g _ (Nat.le_of_lt HGS.out)).mono ?_
      rintro e w' ⟨rfl, rfl⟩
      go_wp2_with fail
      have HL0 : L2 g w ((((w1.alloc (.map #[] 0)).alloc (.cells #[.slice none 0 0, .map (some w1.heap.size), .int .i64 0] 56)).alloc (.map #[] 0)).alloc (.cells #[] 3)) g (w1.heap.size + 1) w1.heap.size (w1.heap.size + 1 + 1) n ss [] [] (.slice (some ⟨w1.heap.size + 1 + 1 + 1, 0, none⟩) 0 0) 0 := L2.start g n ss w w1 HGS.out HN.out HB.out
      go_loopw [7, 8] (fun ov q wr => ∃ (k : Nat) (U : List ByteArray) (O : List Int), q = .int .i64 k ∧ k ≤ n ∧ U.length ≤ k ∧ Hid (L2 g w wr g (w1.heap.size + 1) w1.heap.size (w1.heap.size + 1 + 1) n ss U O ov U.length)) (fun _ q _ => n - (intOf q).toNat)
      case atStart => exact ⟨0, [], [], rfl, Nat.zero_le _, Nat.zero_le _, HL0⟩
      case round =>
        obtain ⟨k, U, O, rfl, hk, hU, HL⟩ := hrel
        clear HL0 HB HN
        obtain ⟨gs, cS, rfl, hOc⟩ := HL.out.shape
        by_cases hlt : k < n
        · have hck := HL.out.names.cell k hlt
          have hsk := HS.out k hlt
          obtain ⟨s, hs⟩ : ∃ s, nth9 ss k = s := ⟨_, rfl⟩
          rw [hs] at hck hsk
          have HSK : Hid (nth9 ss k = s) := hs
          clear hs hOc
          have hlook := HL.out.look s (by unfold maxLen; omega)
          cases hm : mem9 s U
          · rw [hm] at hlook
            have HNW : Hid (s ∉ U) := mem9_not hm
            clear hm
            obtain ⟨Ds, hmap, hseen⟩ := HL.out.seen
            have HSN : Hid (SeenIs Ds U) := hseen
            clear hseen
            have hkk := hkey9 s (by unfold maxLen; omega)
            go_wp2_with (at_mapUpdate; go_loud (refine wpList_mapUpdate_own _ rfl _ _ _ 34 rfl 9 4 law9 Try.underlying34 _ _ _ Ds rfl hmap (by unfold maxLen; omega) _ _ _ rfl rfl hkk _ [] (plainElem_bool Try.underlying4 true) ?_))
            intro w2 hm2 hg2
            obtain ⟨a1, a2, a3, a4, a5⟩ := HL.out.stored HSN.out hm2 hg2 hmap
            have hck2 := a2.cell k hlt
            rw [HSK.out] at hck2
            have HA : Hid (Index g w2 (w1.heap.size + 1) w1.heap.size U ∧ NamesAt w2 g n ss ∧ w2.ownsRow g 3 1 (.slice (some ⟨gs, 0, none⟩) U.length cS) O.length (O.map (Value.int .i64)) ∧ Below g w w2 ∧ g ≤ w2.heap.size) := ⟨a1, a2, a3, a4, a5⟩
            have HM2 : Hid (w2.ownsMap Try.prog 9 (plainElem Try.prog 4) (w1.heap.size + 1 + 1) (U.length + 1) (Ds.put (key s) (.lit (.bool true)))) := hm2
            clear a1 a2 a3 a4 a5 hm2 hg2 hmap hlook hck hkk
            go_wp2_with fail
            refine (zadd_any g (w1.heap.size + 1) w1.heap.size U s _ HA.out.1 (by omega) HNW.out (by omega)).mono ?_
            rintro e w3 ⟨rfl, hI, hK⟩
            obtain ⟨b1, b2, b3, b4, b5⟩ := added (U := U) HM2.out HA.out.2.1 HA.out.2.2.1 HA.out.2.2.2.1 HA.out.2.2.2.2 HL.out.sbm HA.out.1.blocks.1 HA.out.1.blocks.2 hK
            have HLN : Hid (O.length = U.length) := HL.out.len
            have HB3 : Hid (Index g w3 (w1.heap.size + 1) w1.heap.size (U ++ [s]) ∧ w3.ownsMap Try.prog 9 (plainElem Try.prog 4) (w1.heap.size + 1 + 1) (U.length + 1) (Ds.put (key s) (.lit (.bool true))) ∧ NamesAt w3 g n ss ∧ Below g w w3) := ⟨hI, b1, b2, b4⟩
            have HO3 : Hid (w3.ownsRow g 3 1 (.slice (some ⟨gs, 0, none⟩) U.length cS) O.length (O.map (Value.int .i64))) := b3
            have HS3 : Hid (g ≤ w3.heap.size) := b5
            clear HA HM2 hI hK b1 b2 b3 b4 b5 hck2
            go_wp2_with (at_builtin; go_loud (refine wpList_append_own_at _ rfl (.tmp 72) (.tmp 74) 28 rfl g 3 i0 (.int .i64 0) 1 8 Try.underlying28 hi hz0 hz1 hz2 rfl (by decide) _ O.length _ rfl (HO3.out.alloc _) ⟨w3.heap.size, 0, none⟩ 1 1 [.int .i64 (k : Int)] rfl rfl (cell_one_new _ _ _) (ints_oneCell .i64 [(k : Int)]) (by have : O.length = U.length := HLN.out; unfold maxLen; omega) (by have : O.length = U.length := HLN.out; omega) (Nat.le_trans HS3.out (by simp)) ?_))
            intro v6 w6 q1 q2 q3 q4
            have HL6 : Hid (L2 g w w6 g (w1.heap.size + 1) w1.heap.size (w1.heap.size + 1 + 1) n ss (U ++ [s]) (O ++ [(k : Int)]) v6 (U ++ [s]).length) := by
              have := appended HB3.out.1 HB3.out.2.1 (HSN.out.put s) HB3.out.2.2.1 HO3.out HL.out.ornil HB3.out.2.2.2 HS3.out HL.out.sbm HL.out.bs HL.out.bg q1 q2 (by simpa using q4) HLN.out HL.out.at_ rfl hlt HSK.out HNW.out HL.out.inj
              show L2 _ _ _ _ _ _ _ _ _ _ _ _ _
              simpa using this
            clear q1 q2 q3 q4 HL HB3 HO3 HS3
            go_wp2
            go_roundw
            case rel => first | exact ⟨k + 1, U ++ [s], O ++ [(k : Int)], by go_num, by omega, by simp; omega, HL6⟩ | ((repeat apply Exists.intro); exact ⟨⟨k + 1, U ++ [s], O ++ [(k : Int)], by go_num, by omega, by simp; omega, HL6⟩, rfl⟩)
            case measure => simp [intOf]; omega
          · rw [hm] at hlook
            go_wp2
            go_roundw
            case rel => exact ⟨k + 1, U, O, by go_num, by omega, by omega, HL⟩
            case measure => simp [intOf]; omega
        · obtain rfl : n = k := by omega
          clear hlt hk hmk hmm
          have HEN : Hid (∃ bv T dn D, Nix g wr (w1.heap.size + 1) w1.heap.size bv T dn U.length D ∧ Ends n ss U O T dn D) := by
            obtain ⟨bv, T, dn, D, h1, h2⟩ := HL.out.idx
            exact ⟨bv, T, dn, D, h1, h2, HL.out.at_, HL.out.inj⟩
          obtain ⟨bv, T, dn, D, h1, h2⟩ := HEN.out
          have H3 : Hid (L3 g w wr g (w1.heap.size + 1) w1.heap.size n ss U O gs bv T dn D) := ⟨h1, HL.out.names, hOc, HL.out.below, HL.out.size⟩
          have HE : Hid (Ends n ss U O T dn D) := h2
          clear h1 h2 HEN HL hOc
          generalize w1.heap.size = mb at H3 ⊢
          clear HGS
          go_wp2_with fail
          go_loopw [9, 10, 11] (fun p q r wr => ∃ v : Nat, r = .int .i64 v ∧ v ≤ U.length ∧ (∃ a b : Nat, p = .int .i64 a ∧ q = .int .i64 b ∧ a ≤ v ∧ b ≤ v ∧ Hid (a = cnt (fun u => !outB U u) v ∧ b = cnt (farB U) v)) ∧ Hid (L3 g w wr g (mb + 1) mb n ss U O gs bv T dn D)) (fun _ _ r _ => U.length - (intOf r).toNat)
          case atStart => exact ⟨0, rfl, Nat.zero_le _, ⟨0, 0, rfl, rfl, Nat.le_refl _, Nat.le_refl _, rfl, rfl⟩, H3⟩
          case round =>
            obtain ⟨v, rfl, hv, ⟨a, b', rfl, rfl, ha, hb', HAB⟩, H4⟩ := hrel
            clear H3
            by_cases hlt : v < U.length
            · have hcO := H4.out.ords v hlt
              obtain ⟨j, hjn, hj, hjs⟩ := HE.out.at_ v hlt
              rw [hj] at hcO
              have hcN := H4.out.names.cell j hjn
              rw [hjs] at hcN
              have hsz := HS.out j hjn
              rw [hjs] at hsz
              clear hj hjs
              have hd1 : (0 : Int) ≤ (j : Int) := by omega
              cases hd : dec (nb (nth9 U v)) with
              | none =>
                have hin : inTab (nth9 U v) v = none := by unfold inTab; rw [hd]
                obtain ⟨hhas, hat⟩ := HE.out.facts.at_ v hlt hin
                have hat0 := hat (.lit (.int .i32 0))
                have HAB2 : Hid (a = cnt (fun u => !outB U u) (v + 1) ∧ b' = cnt (farB U) (v + 1)) := by
                  have e1 : outB U v = true := by unfold outB; rw [hin]; rfl
                  have e2 : farB U v = false := by unfold farB; rw [hd]; rfl
                  show _ ∧ _
                  rw [cnt_succ, cnt_succ, e1, e2]
                  exact HAB.out
                clear hin hat HAB
                generalize nth9 U v = s at *
                go_wp2_with fail
                refine (zdec_none s _ (by omega) hd).mono ?_
                rintro e w2 ⟨rfl, hb⟩
                have H5 : Hid (L3 g w w2 g (mb + 1) mb n ss U O gs bv T dn D) := H4.out.next hb
                clear hb H4 hcO hcN
                go_wp2_with fail
                refine (name20 H5.out.nix s (by omega)).mono ?_
                rintro e w' ⟨c, rfl, hac, rfl⟩
                rw [hhas]
                rw [hat0] at hac
                simp only [DataW.lit.injEq, Lit.int.injEq, true_and] at hac
                subst hac
                clear hat0 hhas
                go_wp2
                go_roundw
                case rel => exact ⟨v + 1, by go_num, by omega, ⟨a, b', rfl, rfl, by omega, by omega, HAB2⟩, H5⟩
                case measure => simp [intOf]; omega
              | some k =>
                have hk0 := (dec_itoa hd).2
                by_cases hk : (k : Int) < 4 * (v : Int) + 65536
                · have hin : inTab (nth9 U v) v = some k := by unfold inTab; rw [hd]; simp only []; rw [if_pos hk]
                  obtain ⟨hkT, hTk⟩ := HE.out.facts.tab v k hlt hin
                  have hnot := HE.out.notByName hlt hin
                  have HAB2 : Hid (a + 1 = cnt (fun u => !outB U u) (v + 1) ∧ b' = cnt (farB U) (v + 1)) := by
                    have e1 : outB U v = false := by unfold outB; rw [hin]; rfl
                    have e2 : farB U v = false := by unfold farB; rw [e1]; exact Bool.and_false _
                    show _ ∧ _
                    rw [cnt_succ, cnt_succ, e1, e2, HAB.out.1, HAB.out.2]
                    exact ⟨rfl, rfl⟩
                  clear hin HAB
                  obtain ⟨q, hq⟩ : ∃ q : Int, q = 4 * (v : Int) + 65536 := ⟨_, rfl⟩
                  have hadd := run_add_gen (4 * (v : Int)) 65536 q hq (by omega) (by omega)
                  have hkq : (k : Int) < q := by omega
                  clear hq hk
                  have hTm : T.length ≤ maxLen := H4.out.nix.tab.len
                  unfold maxLen at hTm
                  generalize nth9 U v = s at *
                  go_wp2_with fail
                  refine (zdec_some s k _ hd).mono ?_
                  rintro e w2 ⟨rfl, hb⟩
                  have H5 : Hid (L3 g w w2 g (mb + 1) mb n ss U O gs bv T dn D) := H4.out.next hb
                  clear hb H4 hcO hcN
                  go_wp2_with (first | (refine wpList_add16 _ 98 rfl rfl (4 * (v : Int)) q rfl hadd ?_) | (go_at_call 18; refine (len18 H5.out.nix).mono ?_; rintro e w' ⟨rfl, rfl⟩) | (go_at_call 19; refine (at19 H5.out.nix k hkT).mono ?_; rintro e w' ⟨rfl, rfl⟩; rw [hTk]) | (go_at_call 20; refine (name20 H5.out.nix s (by omega)).mono ?_; rintro e w' ⟨c, rfl, hac, rfl⟩; rw [hnot]; clear hac))
                  go_roundw
                  case rel => exact ⟨v + 1, by go_num, by omega, ⟨a + 1, b', by go_num, rfl, by omega, by omega, HAB2⟩, H5⟩
                  case measure => simp [intOf]; omega
                · have hin : inTab (nth9 U v) v = none := by unfold inTab; rw [hd]; simp only []; rw [if_neg hk]
                  obtain ⟨hhas, hat⟩ := HE.out.facts.at_ v hlt hin
                  have hat0 := hat (.lit (.int .i32 0))
                  have hT0 := HE.out.notInTab hlt hin hd
                  have HAB2 : Hid (a = cnt (fun u => !outB U u) (v + 1) ∧ b' + 1 = cnt (farB U) (v + 1)) := by
                    have e1 : outB U v = true := by unfold outB; rw [hin]; rfl
                    have e2 : farB U v = true := by unfold farB; rw [e1, hd]; rfl
                    show _ ∧ _
                    rw [cnt_succ, cnt_succ, e1, e2, HAB.out.1, HAB.out.2]
                    exact ⟨rfl, rfl⟩
                  clear hin hat HAB
                  obtain ⟨q, hq⟩ : ∃ q : Int, q = 4 * (v : Int) + 65536 := ⟨_, rfl⟩
                  have hadd := run_add_gen (4 * (v : Int)) 65536 q hq (by omega) (by omega)
                  have hkq : q ≤ (k : Int) := by omega
                  clear hq hk
                  have hTm : T.length ≤ maxLen := H4.out.nix.tab.len
                  unfold maxLen at hTm
                  generalize nth9 U v = s at *
                  by_cases hkT : k < T.length
                  all_goals
                    go_wp2_with fail
                    refine (zdec_some s k _ hd).mono ?_
                    rintro e w2 ⟨rfl, hb⟩
                    have H5 : Hid (L3 g w w2 g (mb + 1) mb n ss U O gs bv T dn D) := H4.out.next hb
                    clear hb H4 hcO hcN
                    go_wp2_with (first | (refine wpList_add16 _ 98 rfl rfl (4 * (v : Int)) q rfl hadd ?_) | (go_at_call 18; refine (len18 H5.out.nix).mono ?_; rintro e w' ⟨rfl, rfl⟩) | (go_at_call 19; refine (at19 H5.out.nix k hkT).mono ?_; rintro e w' ⟨rfl, rfl⟩; rw [hT0]) | (go_at_call 20; refine (name20 H5.out.nix s (by omega)).mono ?_; rintro e w' ⟨c, rfl, hac, rfl⟩; rw [hhas]; rw [hat0] at hac; simp only [DataW.lit.injEq, Lit.int.injEq, true_and] at hac; subst hac))
                    go_roundw
                    case rel => exact ⟨v + 1, by go_num, by omega, ⟨a, b' + 1, rfl, by go_num, by omega, by omega, HAB2⟩, H5⟩
                    case measure => simp [intOf]; omega
            · obtain rfl : v = U.length := by omega
              have hsz := HE.out.facts.size
              have hcn := cnt_not (outB U) U.length
              have hdn := HE.out.facts.far
              rw [← HAB.out.2] at hdn
              rw [← HAB.out.1, ← hsz] at hcn
              have hle := cnt_le (outB U) U.length
              rw [← hsz] at hle
              have hab : a ≤ U.length := ha
              have e1 : ((Maps.size D : Int) == (U.length : Int) - (a : Int)) = true := by simp; omega
              have e2 : (dn == (b' : Int)) = true := by simp [hdn]
              clear hsz HAB
              go_wp2_with (first | (go_at_call 21; refine (nlen21 H4.out.nix).mono ?_; rintro e w' ⟨rfl, rfl⟩) | (go_at_call 22; refine (decs22 H4.out.nix).mono ?_; rintro e w' ⟨rfl, rfl⟩))
              go_ret
              exact ⟨rfl, HG.out ▸ H4.out.below⟩

set_option maxRecDepth 100000 in
set_option maxHeartbeats 400000 in
theorem law5_big (a : Option Addr) (n cap : Nat) (w : World) (hm : n ≤ maxLen) (h : 1048576 < n) :
    Calls Try.prog 5 #[.slice a n cap] w fun e w' => e = .returned (.bool true) ∧ w = w' := by
  have hm2 := hm
  unfold maxLen at hm2
  go_enter Try.func5, Try.ntmps5
  go_wp2_with (go_at_call 13; refine (bytes13_big a n cap _ hm h).mono ?_; rintro e w' ⟨rfl, rfl⟩)
  go_ret
  exact ⟨rfl, rfl⟩

set_option maxRecDepth 100000 in
set_option maxHeartbeats 400000 in
theorem law5_many (b off n cap : Nat) (ss : List ByteArray) (w : World) (hn : n ≤ 1048576) (h : 65536 < n) (hl : ss.length = n) (hz : ∀ s ∈ ss, s.size ≤ maxLen)
    (hc : ∀ j, j < n → w.cell? ⟨b, off + j, none⟩ = some (.string (nth9 ss j))) :
    Calls Try.prog 5 #[.slice (some ⟨b, off, none⟩) n cap] w fun e w' => e = .returned (.bool true) ∧ w = w' := by
  have HC := hide hc
  have HZ := hide hz
  have HL := hide hl
  clear hc hz hl
  go_enter Try.func5, Try.ntmps5
  go_wp2_with fail
  refine (bytes13_row b off n cap ss _ (by omega) HL.out HZ.out HC.out).mono ?_
  rintro e w' ⟨h', rfl⟩
  rcases h' with rfl | ⟨rfl, _⟩
  all_goals
    go_wp2
    go_ret
    exact ⟨rfl, rfl⟩

set_option maxRecDepth 100000 in
set_option maxHeartbeats 400000 in
theorem law5_nil (w : World) :
    Calls Try.prog 5 #[.slice none 0 0] w fun e w' => e = .returned (.bool true) ∧ Below w.heap.size w w' := by
  have hnil := nil_eql29
  have hmk := make0
  have hmm := @run_makeMap Try.prog
  go_enter Try.func5, Try.ntmps5
  go_wp2_with (go_at_call 13; refine (bytes13_nil _).mono ?_; rintro e w' ⟨rfl, rfl⟩)
  refine wp_loop_rounds 1 ?_
  rw [rounds_succ]
  go_wp2_with (first | (go_at_call 14; refine (clone14_nil _).mono ?_; rintro e w' ⟨rfl, rfl⟩) | (go_at_call 15; refine (new15 w.heap.size _ (Nat.le_refl _)).mono ?_; rintro e w' ⟨rfl, rfl⟩))
  have HI : Hid (Index w.heap.size ((((w.alloc (.map #[] 0)).alloc (.cells #[.slice none 0 0, .map (some w.heap.size), .int .i64 0] 56)).alloc (.map #[] 0)).alloc (.cells #[] 3)) (w.heap.size + 1) w.heap.size []) := by
    refine (Index.start w.heap.size w (Nat.le_refl _)).same fun k hk _ _ => ?_
    rw [Below.heap_alloc _ _ k (by simp at hk ⊢; omega), Below.heap_alloc _ _ k hk]
  have HB : Hid (Below w.heap.size w ((((w.alloc (.map #[] 0)).alloc (.cells #[.slice none 0 0, .map (some w.heap.size), .int .i64 0] 56)).alloc (.map #[] 0)).alloc (.cells #[] 3))) :=
    (((((Below.refl _ _).alloc (Nat.le_refl _) _).alloc (by simp) _).alloc (by simp; omega) _).alloc (by simp; omega) _)
  generalize (((w.alloc (.map #[] 0)).alloc (.cells #[.slice none 0 0, .map (some w.heap.size), .int .i64 0] 56)).alloc (.map #[] 0)).alloc (.cells #[] 3) = w4 at HI HB ⊢
  obtain ⟨bv, T, dn, D, hN, hF⟩ := HI.out
  have hsz : Maps.size D = 0 := hF.size
  have hdn : dn = 0 := hF.far
  have HN : Hid (Nix w.heap.size w4 (w.heap.size + 1) w.heap.size bv T dn 0 D) := hN
  clear hN hF HI
  subst hdn
  refine wp_loop_rounds 1 ?_
  rw [rounds_succ]
  go_wp2
  refine wp_loop_rounds 1 ?_
  rw [rounds_succ]
  go_wp2_with (first | (go_at_call 21; refine (nlen21 HN.out).mono ?_; rintro e w' ⟨rfl, rfl⟩; rw [hsz]) | (go_at_call 22; refine (decs22 HN.out).mono ?_; rintro e w' ⟨rfl, rfl⟩))
  go_ret
  exact ⟨rfl, HB.out⟩
end Go.Proofs.Qxb6600487a
