/-
  The script of notes: the law walks.
-/
import Derived.Test.Qxb6603893aTail
namespace Go.Proofs.Qxb6603893a
open Go.RowKit Go.Maps Script
set_option linter.unusedVariables false

set_option maxRecDepth 100000 in
set_option maxHeartbeats 4000000 in
theorem law5 (lim : Int) (da ma wa ca ha : Option Addr) (dc mc wc cc hc : Nat) (ks : List (List Value)) (bs : List Bool) (ws cs : List Int) (hs : List Bool) (w : World)
    (hks : DevsAt w da ks) (hbs : CellsAt w ma (bs.map Value.bool)) (hws : CellsAt w wa (ws.map (Value.int .i64))) (hcs : CellsAt w ca (cs.map (Value.int .u32))) (hhs : CellsAt w ha (hs.map Value.bool))
    (n1 : ks.length ≤ maxLen) (n2 : bs.length ≤ maxLen) (n3 : ws.length ≤ maxLen) (n4 : cs.length ≤ maxLen) (n5 : hs.length ≤ maxLen) (hl0 : -9223372036854775808 ≤ lim) (hl1 : lim ≤ 9223372036854775807) :
    Calls Try.prog 5 #[.int .i64 lim, .slice da ks.length dc, .slice ma bs.length mc, .slice wa ws.length wc, .slice ca cs.length cc, .slice ha hs.length hc] w fun ex w' => ex = .returned (.bool true) ∧ Below w.heap.size w w' := by
  have HK := hide hks
  have HB := hide hbs
  have HW := hide hws
  have HC := hide hcs
  have HH := hide hhs
  have hby := bytes14 lim da ma wa ca ha ks.length bs.length ws.length cs.length hs.length dc mc wc cc hc w n1 n2 n3 n4 n5
  clear hks hbs hws hcs hhs
  unfold maxLen at n1 n2 n3 n4 n5
  go_enter Try.func5, Try.ntmps5
  go_wp2_with fail
  refine hby.mono ?_
  rintro ex w0 ⟨hex, rfl⟩
  clear hby
  rcases hex with rfl | rfl
  rotate_left
  · go_wp2
    go_ret
    exact ⟨rfl, Below.refl _ _⟩
  by_cases g1 : 4096 < ks.length
  · go_wp2
    go_ret
    exact ⟨rfl, Below.refl _ _⟩
  by_cases g2 : 4096 < bs.length
  · go_wp2
    go_ret
    exact ⟨rfl, Below.refl _ _⟩
  by_cases g3 : 4096 < ws.length
  · go_wp2
    go_ret
    exact ⟨rfl, Below.refl _ _⟩
  by_cases g4 : 4096 < cs.length
  · go_wp2
    go_ret
    exact ⟨rfl, Below.refl _ _⟩
  by_cases g5 : 4096 < hs.length
  · go_wp2
    go_ret
    exact ⟨rfl, Below.refl _ _⟩
  have g6 : ¬ 1048576 < (ks.length : Int) * 16 + (bs.length : Int) + (ws.length : Int) * 8 + (cs.length : Int) * 4 + (hs.length : Int) := by omega
  by_cases g7 : lim < 0
  · go_wp2
    go_ret
    exact ⟨rfl, Below.refl _ _⟩
  obtain ⟨l, rfl⟩ : ∃ l : Nat, lim = (l : Int) := ⟨lim.toNat, by omega⟩
  have hgs : Hid (Good (mkSc ks bs ws cs hs)) := mkSc_good HK.out.1 bs ws cs hs
  obtain ⟨s, hsd⟩ : ∃ s, s = mkSc ks bs ws cs hs := ⟨_, rfl⟩
  rw [← hsd] at hgs
  have HSD := hide hsd
  clear hsd
  go_wp2_with fail
  refine (new15nil (l : Int) w).mono ?_
  rintro ex w1 ⟨h, mb, rfl, h1, hb1⟩
  obtain ⟨j0, hj0, ha0, hbz0, hcz0⟩ := info_parts i28
  have hs1 := hb1.size
  go_wp2_with (at_make; refine wpList_make_full _ rfl _ _ 31 rfl w1.heap.size 28 j0 (.int .u64 0) 1 Try.underlying31 hj0 ha0 hbz0 _ _ _ _ ks.length rfl rfl rfl rfl (by rw [hcz0]; omega) (by unfold maxLen; omega) (Nat.le_refl _) ?_; intro w2 ho2 hg2)
  have HL0 : Hid (L5 w s l h mb w1.heap.size ks.length 0 0 true w2) := by
    obtain ⟨c, q, r⟩ := made_open ho2
    refine ⟨hb1.grown hg2 hs1 (by simp), ⟨.map [], 0, ?_, MapIs.start s, Nat.le_refl _⟩, ⟨c, q, by omega, fun t h => by omega⟩, hs1⟩
    have hk : kept s l 0 = [] := by simp [kept, F]
    have ho : oldest s l 0 = 0 := by simp [oldest, F, dr]
    rw [hk, ho]
    exact h1.next fun k hk => hg2.block k hk (by simp)
  clear ho2 hg2 h1 hb1
  generalize w1.heap.size = E at HL0 hs1 ⊢
  go_loopw [16, 17] (fun z q wr => ∃ j : Nat, z = .int .u64 (ec s j : Nat) ∧ q = .int .i64 j ∧ j ≤ ks.length ∧ Hid (L5 w s l h mb E ks.length j j (decide (j = 0)) wr)) (fun _ q _ => ks.length - (intOf q).toNat)
  case atStart => exact ⟨0, rfl, rfl, Nat.zero_le _, HL0⟩
  case round =>
    obtain ⟨j, rfl, rfl, hj, HJ⟩ := hrel
    by_cases hjn : j < ks.length
    · as_aux_lemma =>
        obtain ⟨Dj, hDj⟩ : ∃ Dj, ks[j]? = some Dj := ⟨_, List.getElem?_eq_getElem hjn⟩
        have hgd : s.D j = Dj := by rw [HSD.out]; show ks.getD j z16 = Dj; rw [List.getD_eq_getElem?_getD, hDj]; rfl
        have hdv : Dev Dj := HK.out.1 Dj (List.mem_of_getElem? hDj)
        obtain ⟨kb, koff, rfl, hkb, hkr⟩ := HK.out.2 (fun e => by rw [e] at hDj; cases hDj)
        have c16 := boolAt16 wr ma mc j bs (HB.out.next HJ.out.below) (by omega) (by omega)
        have hmk : bs.getD j false = s.mark j := by rw [HSD.out]; rfl
        rw [hmk] at c16
        have HWR := hide (wrap_u64 (ec s j) (by have := ec_le s j; omega))
        have HKR := hide (hkr j Dj hDj)
        have HDV := hide hdv
        clear hkr hDj hmk hdv
        go_wp2_with fail
        refine c16.mono ?_
        rintro ex w3 ⟨rfl, rfl⟩
        clear c16
        -- the mark, and the epoch's count
        obtain ⟨mkj, hmkj⟩ : ∃ b, s.mark j = b := ⟨_, rfl⟩
        have hep : ep s j = ec s j + (if j = 0 ∨ s.mark j = true then 1 else 0) := rfl
        rw [hmkj] at hep ⊢
        have HMK := hide hmkj
        clear hmkj
        cases mkj
        case' true =>
          obtain ⟨M, ms, q1, q2, q3⟩ := HJ.out.sj
          go_wp2_with fail
          refine (markH q1).mono ?_
          rintro ex w4 ⟨rfl, hh4, hb4, ht4⟩
          have HJ4 : Hid (L5 w s l h mb E ks.length j j (decide (j = 0) || s.mark j) w4) := ⟨HJ.out.below.trans hb4, ⟨M, ms, by rw [HMK.out]; simpa using hh4, q2, q3⟩, HJ.out.ep.tf ht4, HJ.out.hE⟩
          clear q1 q2 q3 hh4 hb4 ht4 HJ
          have he : ep s j = ec s j + 1 := by rw [hep]; simp
          by_cases hjz : j = 0
        case' false =>
          obtain ⟨w4, rfl⟩ : ∃ w4, w4 = wr := ⟨_, rfl⟩
          have HJ4 : Hid (L5 w s l h mb E ks.length j j (decide (j = 0) || s.mark j) w4) := ⟨HJ.out.below, by rw [HMK.out]; simpa using HJ.out.sj, HJ.out.ep, HJ.out.hE⟩
          clear HJ
          by_cases hjz : j = 0
          case' pos => have he : ep s j = ec s j + 1 := by rw [hep, if_pos (Or.inl hjz)]
          case' neg => have he : ep s j = ec s j := by rw [hep, if_neg (by simp [hjz])]; rfl
        all_goals
          obtain ⟨⟨y0, cE0⟩, fE0⟩ := HJ4.out.ep.cell hjn
          first | (have hjb : ((j : Int) == 0) = true := beq_iff_eq.2 (by omega)) | (have hjb : ((j : Int) == 0) = false := beq_eq_false_iff_ne.2 (by omega))
          have HJ6 : Hid (L5 w s l h mb E ks.length j (j + 1) (decide (j = 0) || s.mark j) (w4.setCell ⟨E, j, none⟩ (.int .u64 (ep s j : Nat)))) := by
            obtain ⟨c, q, _⟩ := HJ4.out.ep
            exact ⟨HJ4.out.below.setCell (p := ⟨E, j, none⟩) HJ4.out.hE _, HJ4.out.sj.setEp q _, HJ4.out.ep.step hjn, HJ4.out.hE⟩
          obtain ⟨v, hv⟩ : ∃ v : Int, v = ((ep s j : Nat) : Int) := ⟨_, rfl⟩
          rw [← hv] at HJ6
          first
            | (have hwv : IntKind.u64.wrap ((ec s j : Nat) + 1 : Int) = v := by rw [hv, he]; exact HWR.out)
            | skip
          first
            | (have hwe : ((ec s j : Nat) : Int) = v := by rw [hv, he])
            | skip
          have HV := hide hv
          clear he hep HJ4 hv hjz
          go_wp2_with fail
          generalize w4.setCell ⟨E, j, none⟩ (.int .u64 v) = w6 at HJ6 ⊢
          have hsub : ∀ a b : World, (∃ u : Unit, a = w6.drewN 1) → (∃ u : Unit, b = w6.drewN 1) → b = a := by
            rintro _ _ ⟨_, rfl⟩ ⟨_, rfl⟩
            rfl
          have hld : (Instr.loadAt 34 (.pointer (some ⟨kb, koff + j * 16, none⟩))).run Try.prog (w6.drewN 1) = .ok (.agg Dj.toArray) (w6.drewN 1) := run_loadAt_mid (w6.drewN 1) kb (koff + j * 16) 34 Dj _ (rangeAt_below HKR.out (HJ6.out.below.block kb hkb)) Try.underlying34 rfl (by rw [HDV.out.1]; exact size34)
          have k18 := wallAt18 (w6.drewN 1) wa wc j ws (HW.out.next (Below.drewN HJ6.out.below 1)) (by omega) (by omega)
          have k19 := countAt19 (w6.drewN 1) ca cc j cs (HC.out.next (Below.drewN HJ6.out.below 1)) (by omega) (by omega)
          have k16 := boolAt16 (w6.drewN 1) ha hc j hs (HH.out.next (Below.drewN HJ6.out.below 1)) (by omega) (by omega)
          rw [show ws.getD j 0 = s.wl j by rw [HSD.out]; rfl] at k18
          rw [show cs.getD j 0 = s.ct j by rw [HSD.out]; rfl] at k19
          rw [show hs.getD j false = s.hd j by rw [HSD.out]; rfl] at k16
          refine wp_region_mix (fun w' => ∃ u : Unit, w' = w6.drewN 1) 14 (by kernel_rfl) (by kernel_rfl) rfl (fun hR => ?_)
          refine wpMix_stepC hR 0 rfl hsub (by kernel_rfl) rfl (fun K hK => ?_)
          go_big_quiet_op
          refine hK _ ?_
          clear hK K
          refine wpMix_stepC hR 1 rfl hsub (by kernel_rfl) rfl (fun K hK => ?_)
          go_big_quiet_op
          refine hK _ ?_
          clear hK K
          refine wpMix_stepC hR 2 rfl hsub (by kernel_rfl) rfl (fun K hK => ?_)
          go_big_quiet_op
          refine hK _ ?_
          clear hK K
          refine wpMix_stepC hR 3 rfl hsub (by kernel_rfl) rfl (fun K hK => ?_)
          go_big_quiet_op
          refine hK _ ?_
          clear hK K
          refine wpMix_stepC hR 4 rfl hsub (by kernel_rfl) rfl (fun K hK => quiet_load 34 (.tmp 119) rfl (.agg Dj.toArray) (by rintro _ ⟨_, rfl⟩; exact hld) (hK _ ?_))
          simp only [Act.put, List.setIfInBounds_toArray, List.set_cons_succ, List.set_cons_zero]
          clear hK K
          refine wpMix_stepC hR 5 rfl hsub (by kernel_rfl) rfl (fun K hK => ?_)
          go_big_quiet_op
          refine hK _ ?_
          clear hK K
          refine wpMix_stepC hR 6 rfl hsub (by kernel_rfl) rfl (fun K hK => ?_)
          go_big_quiet_op
          refine hK _ ?_
          clear hK K
          refine wpMix_stepC hR 7 rfl hsub (by kernel_rfl) rfl (fun K hK => ?_)
          go_big_quiet_op
          refine ⟨_, k18.mono (fun e w'' ⟨h1, h2⟩ => ⟨h1, h2.symm⟩), hK _ ?_⟩
          clear hK K
          refine wpMix_stepC hR 8 rfl hsub (by kernel_rfl) rfl (fun K hK => ?_)
          go_big_quiet_op
          refine hK _ ?_
          clear hK K
          refine wpMix_stepC hR 9 rfl hsub (by kernel_rfl) rfl (fun K hK => ?_)
          go_big_quiet_op
          refine hK _ ?_
          clear hK K
          refine wpMix_stepC hR 10 rfl hsub (by kernel_rfl) rfl (fun K hK => ?_)
          go_big_quiet_op
          refine ⟨_, k19.mono (fun e w'' ⟨h1, h2⟩ => ⟨h1, h2.symm⟩), hK _ ?_⟩
          clear hK K
          refine wpMix_stepC hR 11 rfl hsub (by kernel_rfl) rfl (fun K hK => ?_)
          go_big_quiet_op
          refine hK _ ?_
          clear hK K
          refine wpMix_stepC hR 12 rfl hsub (by kernel_rfl) rfl (fun K hK => ?_)
          go_big_quiet_op
          refine hK _ ?_
          clear hK K
          refine wpMix_stepC hR 13 rfl hsub (by kernel_rfl) rfl (fun K hK => ?_)
          go_big_quiet_op
          refine ⟨_, k16.mono (fun e w'' ⟨h1, h2⟩ => ⟨h1, h2.symm⟩), hK _ ?_⟩
          clear hK K
          refine ⟨⟨(), rfl⟩, by kernel_rfl, ?_⟩
          have kn := noteS hgs.out (w := w6.drewN 1) (HJ6.out.sj.next fun _ _ => rfl) HJ6.out.below.size (by omega) hl1
          rw [hgd] at kn
          clear hR k18 k19 k16 hld hsub
          go_wp2_with fail
          refine kn.mono ?_
          rintro ex w7 ⟨rfl, hq1, hq2, hq3⟩
          have HJ7 : Hid (L5 w s l h mb E ks.length (j + 1) (j + 1) (decide (j + 1 = 0)) w7) := ⟨(Below.drewN HJ6.out.below 1).trans hq2, hq1, HJ6.out.ep.tf hq3, HJ6.out.hE⟩
          have hve : v = ((ec s (j + 1) : Nat) : Int) := HV.out
          clear hq1 hq2 hq3 kn HJ6
          go_wp2
          go_roundw
          case rel =>
            refine ⟨j + 1, ?_, ?_, by omega, HJ7⟩
            · first | rfl | rw [hve]
            · go_num
          case measure => simp [intOf]; omega
    · obtain rfl : j = ks.length := by omega
      have hmz : (decide (ks.length = 0)) = decide (ks.length = 0) := rfl
      obtain ⟨wq, rfl⟩ : ∃ wq, wq = wr := ⟨_, rfl⟩
      have hb1 := HJ.out.below.size
      obtain ⟨i3, hi3, hia3, hib3, hic3⟩ := info_parts info3
      go_wp2_with (at_make; go_loud (refine wpList_make_own _ rfl _ _ 55 rfl wq.heap.size 3 i3 (.int .i64 0) 1 Try.underlying55 hi3 hia3 hib3 _ _ _ ks.length rfl rfl rfl (by rw [hic3]; omega) (by unfold maxLen; omega) (Nat.le_refl _) ?_; intro w8 ho8 hg8))
      have HL8 : Hid (L5 w s l h mb E ks.length ks.length ks.length (decide (ks.length = 0)) w8 ∧ w8.ownsRow w.heap.size 3 1 (.slice (some ⟨wq.heap.size, 0, none⟩) 0 ks.length) (F s 0).length (ints3 (F s 0))) := ⟨HJ.out.row3 hg8 (fun k hk => by cases hk), ownsRow_base ho8 hb1⟩
      have hq1 : w.heap.size ≤ wq.heap.size := hb1
      clear HJ ho8 hg8 HL0
      go_loopw [19, 20] (fun ov q wr => ∃ j : Nat, q = .int .i64 j ∧ j ≤ ks.length ∧ Hid (L5 w s l h mb E ks.length ks.length ks.length (decide (ks.length = 0)) wr ∧ wr.ownsRow w.heap.size 3 1 ov (F s j).length (ints3 (F s j))) ∧ ∃ ao n c, ov = .slice ao n c) (fun _ q _ => ks.length - (intOf q).toNat)
      case atStart => exact ⟨0, rfl, Nat.zero_le _, HL8, _, _, _, rfl⟩
      case round =>
        obtain ⟨j, rfl, hj, HJ, ao, on, oc, rfl⟩ := hrel
        by_cases hjn : j < ks.length
        · as_aux_lemma =>
            obtain ⟨wp, rfl⟩ : ∃ wp, wp = wr := ⟨_, rfl⟩
            go_wp2_with fail
            go_loopw [21, 22] (fun b q wr => ∃ t : Nat, q = .int .i64 ((t : Int) - 1) ∧ t ≤ j ∧ Hid (L5 w s l h mb E ks.length ks.length ks.length (decide (ks.length = 0)) wr ∧ wr.ownsRow w.heap.size 3 1 (.slice ao on oc) (F s j).length (ints3 (F s j))) ∧ ((b = .bool true ∧ Hid (SameEp s j t ∧ Clear s j t)) ∨ (b = .bool false ∧ Hid (SameEp s j t ∧ ¬ Clear s j t)))) (fun _ q _ => (intOf q + 1).toNat)
            case atStart => exact ⟨j, by go_num, Nat.le_refl _, HJ, .inl ⟨rfl, ⟨fun k k1 k2 => by omega, fun k k1 k2 => by omega⟩⟩⟩
            case round =>
              obtain ⟨t, rfl, ht, HT, hfb⟩ := hrel
              have hkne : ks ≠ [] := fun e => by rw [e] at hjn; cases hjn
              obtain ⟨Dj, hDj⟩ : ∃ Dj, ks[j]? = some Dj := ⟨_, List.getElem?_eq_getElem hjn⟩
              obtain ⟨kb, koff, rfl, hkb, hkr⟩ := HK.out.2 hkne
              have cj := HT.out.1.ep.val (t := j) hjn
              by_cases ht0 : t = 0
              · subst ht0
                rcases hfb with ⟨rfl, HS⟩ | ⟨rfl, HS⟩
                · have hfst : isFirst s j = true := (scan_end (b := true) (Nat.zero_le _) HS.out.1 ⟨fun _ => HS.out.2, fun _ => rfl⟩ (.inl rfl)).symm
                  clear HS cj
                  go_wp2_with fail
                  go_quiet (fail)
                  have HX := hide (And.intro (HT.out.1.drewN nq) (show (wr.drewN nq).ownsRow w.heap.size 3 1 (.slice ao on oc) (F s j).length (ints3 (F s j)) from HT.out.2))
                  generalize wr.drewN nq = w9 at HX ⊢
                  clear HT
                  have hF : F s (j + 1) = F s j ++ [j] := by simp [F, hfst]
                  have hFl : (F s j).length ≤ j := F_len s j
                  have HOW := hide (HX.out.2.alloc (.cells #[.int .i64 (j : Int)] 3))
                  have HBS : Hid (w.heap.size ≤ (w9.alloc (.cells #[.int .i64 (j : Int)] 3)).heap.size) := Nat.le_trans HX.out.1.below.size (by simp)
                  go_wp2_with (at_builtin; go_loud (refine wpList_append_own_at _ rfl (.tmp 165) (.tmp 167) 55 rfl w.heap.size 3 i3 (.int .i64 0) 1 8 Try.underlying55 hi3 hia3 hib3 hic3 rfl (by decide) _ (F s j).length _ rfl HOW.out ⟨w9.heap.size, 0, none⟩ 1 1 [.int .i64 (j : Int)] rfl rfl (cell_one_new _ _ _) (ints_oneCell .i64 [(j : Int)]) (by unfold maxLen; omega) (by omega) HBS.out ?_))
                  intro v6 w10 p1 p2 p3 p4
                  have HL9 := (HX.out.1.row3 (r := none) (World.grownBy_alloc w9 (.cells #[.int .i64 (j : Int)] 3) none) (fun k hk => by cases hk)).row3 p2 (own_row3 HOW.out (Nat.le_refl _))
                  obtain ⟨ao', on', oc', rfl⟩ : ∃ ao n c, v6 = .slice ao n c := by
                    rcases p1.2 with ⟨rfl, _⟩ | ⟨g', cap', cur', rfl, _⟩
                    · exact ⟨_, _, _, rfl⟩
                    · exact ⟨_, _, _, rfl⟩
                  have HX10 : Hid (L5 w s l h mb E ks.length ks.length ks.length (decide (ks.length = 0)) w10 ∧ w10.ownsRow w.heap.size 3 1 (.slice ao' on' oc') (F s (j + 1)).length (ints3 (F s (j + 1)))) := ⟨HL9, by rw [hF]; simpa [ints3] using p1⟩
                  clear p1 p2 p3 p4 HL9 HX HOW HBS
                  go_wp2
                  go_roundw
                  case rel => first | exact ⟨j + 1, by go_num, by omega, HX10, _, _, _, rfl⟩ | (refine ⟨trivial, ?_⟩; (repeat apply Exists.intro); exact ⟨⟨j + 1, by go_num, by omega, HX10, _, _, _, rfl⟩, rfl⟩)
                  case measure => simp [intOf]; omega
                · have hfst : isFirst s j = false := (scan_end (b := false) (Nat.zero_le _) HS.out.1 ⟨(fun h => by cases h), fun h => absurd h HS.out.2⟩ (.inl rfl)).symm
                  clear HS cj
                  go_wp2_with fail
                  go_quiet (fail)
                  have hF : F s (j + 1) = F s j := by simp [F, hfst]
                  have HX := hide (And.intro (HT.out.1.drewN nq) (show (wr.drewN nq).ownsRow w.heap.size 3 1 (.slice ao on oc) (F s (j + 1)).length (ints3 (F s (j + 1))) from hF ▸ HT.out.2))
                  generalize wr.drewN nq = w9 at HX ⊢
                  clear HT
                  go_wp2
                  go_roundw
                  case rel => first | exact ⟨j + 1, by go_num, by omega, HX, _, _, _, rfl⟩ | (refine ⟨trivial, ?_⟩; (repeat apply Exists.intro); exact ⟨⟨j + 1, by go_num, by omega, HX, _, _, _, rfl⟩, rfl⟩)
                  case measure => simp [intOf]; omega
              · obtain ⟨k, rfl⟩ : ∃ k, t = k + 1 := ⟨t - 1, by omega⟩
                rw [show ((k + 1 : Nat) : Int) - 1 = (k : Int) by omega]
                have ck := HT.out.1.ep.val (t := k) (by omega)
                by_cases hep : ep s k = ep s j
                · have hepb : (((ep s k : Nat) : Int) == ((ep s j : Nat) : Int)) = true := beq_iff_eq.2 (by omega)
                  obtain ⟨Dk, hDk⟩ : ∃ Dk, ks[k]? = some Dk := ⟨_, List.getElem?_eq_getElem (by omega)⟩
                  have hdj : s.D j = Dj := by rw [HSD.out]; show ks.getD j z16 = Dj; rw [List.getD_eq_getElem?_getD, hDj]; rfl
                  have hdk : s.D k = Dk := by rw [HSD.out]; show ks.getD k z16 = Dk; rw [List.getD_eq_getElem?_getD, hDk]; rfl
                  have hvj : Dev Dj := hdj ▸ hgs.out.dev j
                  have hvk : Dev Dk := hdk ▸ hgs.out.dev k
                  have HRJ := hide (hkr j Dj hDj)
                  have HRK := hide (hkr k Dk hDk)
                  have hsd : sameDev Dk Dj = true ↔ s.key k = s.key j := by
                    rw [hgs.out.key k, hgs.out.key j, hdj, hdk]
                    simp [sameDev]
                  have HSD2 := hide hsd
                  have HVJ := hide hvj
                  have HVK := hide hvk
                  clear hkr hDj hDk hdj hdk hsd hvj hvk
                  go_wp2_with fail
                  go_quiet (fail)
                  have HX := hide (And.intro (HT.out.1.drewN nq) (show (wr.drewN nq).ownsRow w.heap.size 3 1 (.slice ao on oc) (F s j).length (ints3 (F s j)) from HT.out.2))
                  generalize wr.drewN nq = w9 at HX ⊢
                  clear HT cj ck
                  have lk : ∀ n, (Instr.loadAt 34 (.pointer (some ⟨kb, koff + k * 16, none⟩))).run Try.prog (w9.drewN n) = .ok (.agg Dk.toArray) (w9.drewN n) := fun n => run_loadAt_mid (w9.drewN n) kb (koff + k * 16) 34 Dk _ (rangeAt_below HRK.out (HX.out.1.below.block kb hkb)) Try.underlying34 rfl (by rw [HVK.out.1]; exact size34)
                  have lj : ∀ n, (Instr.loadAt 34 (.pointer (some ⟨kb, koff + j * 16, none⟩))).run Try.prog (w9.drewN n) = .ok (.agg Dj.toArray) (w9.drewN n) := fun n => run_loadAt_mid (w9.drewN n) kb (koff + j * 16) 34 Dj _ (rangeAt_below HRJ.out (HX.out.1.below.block kb hkb)) Try.underlying34 rfl (by rw [HVJ.out.1]; exact size34)
                  go_wp2_with fail
                  refine wp_region_quiet_lit (by kernel_rfl) (by kernel_rfl) ?_
                  iterate 3 (go_big_quiet_step (fail))
                  refine wpQuiet_by rfl fun K hK => quiet_load 34 (.tmp 157) rfl (.agg Dk.toArray) (by rintro _ ⟨n, rfl⟩; exact lk n) (hK _ ?_)
                  simp only [Act.put, List.setIfInBounds_toArray, List.set_cons_succ, List.set_cons_zero]
                  clear hK K
                  iterate 3 (go_big_quiet_step (fail))
                  refine wpQuiet_by rfl fun K hK => quiet_load 34 (.tmp 161) rfl (.agg Dj.toArray) (by rintro _ ⟨n, rfl⟩; exact lj n) (hK _ ?_)
                  simp only [Act.put, List.setIfInBounds_toArray, List.set_cons_succ, List.set_cons_zero]
                  clear hK K
                  refine wpQuiet_by rfl fun K hK => quiet_binop .eql 34 (.tmp 158) (.tmp 162) 34 rfl (.bool (sameDev Dk Dj)) (fun w _ => eql34' w HVK.out HVJ.out _ _) (hK _ ?_)
                  simp only [Act.put, List.setIfInBounds_toArray, List.set_cons_succ, List.set_cons_zero]
                  clear hK K
                  refine wpQuiet_nil ?_
                  intro _ hw'
                  obtain ⟨nq, rfl⟩ := hw'
                  have HY := hide (And.intro (HX.out.1.drewN nq) (show (w9.drewN nq).ownsRow w.heap.size 3 1 (.slice ao on oc) (F s j).length (ints3 (F s j)) from HX.out.2))
                  generalize w9.drewN nq = w10 at HY ⊢
                  clear HX lk lj
                  generalize sameDev Dk Dj = c at HSD2 ⊢
                  rcases hfb with ⟨rfl, HS⟩ | ⟨rfl, HS⟩
                  all_goals
                    first
                      | (have hst := scan_step (t := k + 1) (b := true) (by omega) ht HS.out.1 ⟨fun _ => HS.out.2, fun _ => rfl⟩ hep)
                      | (have hst := scan_step (t := k + 1) (b := false) (by omega) ht HS.out.1 ⟨(fun h => by cases h), fun h => absurd h HS.out.2⟩ hep)
                    have hc2 := hst.2 c HSD2.out
                    have hs2 := hst.1
                    rw [Nat.add_sub_cancel] at hc2 hs2
                    have HC2 := hide hc2
                    have HS2 := hide hs2
                    clear hst hc2 hs2 HS HSD2 hep hepb
                    cases c
                  all_goals
                    go_wp2
                    go_roundw
                    case rel =>
                      refine ⟨k, by go_num, by omega, HY, ?_⟩
                      first
                        | exact .inl ⟨rfl, HS2.out, HC2.out.1 rfl⟩
                        | exact .inr ⟨rfl, HS2.out, fun h => by have := HC2.out.2 h; cases this⟩
                    case measure => simp [intOf]
                · have hepb : (((ep s k : Nat) : Int) == ((ep s j : Nat) : Int)) = false := beq_eq_false_iff_ne.2 (by omega)
                  rcases hfb with ⟨rfl, HS⟩ | ⟨rfl, HS⟩
                  · have hfst : isFirst s j = true := (scan_end (b := true) ht HS.out.1 ⟨fun _ => HS.out.2, fun _ => rfl⟩ (.inr (by simpa using hep))).symm
                    clear HS
                    go_wp2_with fail
                    go_quiet (fail)
                    have HX := hide (And.intro (HT.out.1.drewN nq) (show (wr.drewN nq).ownsRow w.heap.size 3 1 (.slice ao on oc) (F s j).length (ints3 (F s j)) from HT.out.2))
                    generalize wr.drewN nq = w9 at HX ⊢
                    clear HT
                    have hF : F s (j + 1) = F s j ++ [j] := by simp [F, hfst]
                    have hFl : (F s j).length ≤ j := F_len s j
                    have HOW := hide (HX.out.2.alloc (.cells #[.int .i64 (j : Int)] 3))
                    have HBS : Hid (w.heap.size ≤ (w9.alloc (.cells #[.int .i64 (j : Int)] 3)).heap.size) := Nat.le_trans HX.out.1.below.size (by simp)
                    go_wp2_with (at_builtin; go_loud (refine wpList_append_own_at _ rfl (.tmp 165) (.tmp 167) 55 rfl w.heap.size 3 i3 (.int .i64 0) 1 8 Try.underlying55 hi3 hia3 hib3 hic3 rfl (by decide) _ (F s j).length _ rfl HOW.out ⟨w9.heap.size, 0, none⟩ 1 1 [.int .i64 (j : Int)] rfl rfl (cell_one_new _ _ _) (ints_oneCell .i64 [(j : Int)]) (by unfold maxLen; omega) (by omega) HBS.out ?_))
                    intro v6 w10 p1 p2 p3 p4
                    have HL9 := (HX.out.1.row3 (r := none) (World.grownBy_alloc w9 (.cells #[.int .i64 (j : Int)] 3) none) (fun k hk => by cases hk)).row3 p2 (own_row3 HOW.out (Nat.le_refl _))
                    obtain ⟨ao', on', oc', rfl⟩ : ∃ ao n c, v6 = .slice ao n c := by
                      rcases p1.2 with ⟨rfl, _⟩ | ⟨g', cap', cur', rfl, _⟩
                      · exact ⟨_, _, _, rfl⟩
                      · exact ⟨_, _, _, rfl⟩
                    have HX10 : Hid (L5 w s l h mb E ks.length ks.length ks.length (decide (ks.length = 0)) w10 ∧ w10.ownsRow w.heap.size 3 1 (.slice ao' on' oc') (F s (j + 1)).length (ints3 (F s (j + 1)))) := ⟨HL9, by rw [hF]; simpa [ints3] using p1⟩
                    clear p1 p2 p3 p4 HL9 HX HOW HBS
                    go_wp2
                    go_roundw
                    case rel => first | exact ⟨j + 1, by go_num, by omega, HX10, _, _, _, rfl⟩ | (refine ⟨trivial, ?_⟩; (repeat apply Exists.intro); exact ⟨⟨j + 1, by go_num, by omega, HX10, _, _, _, rfl⟩, rfl⟩)
                    case measure => simp [intOf]; omega
                  · have hfst : isFirst s j = false := (scan_end (b := false) ht HS.out.1 ⟨(fun h => by cases h), fun h => absurd h HS.out.2⟩ (.inr (by simpa using hep))).symm
                    clear HS
                    go_wp2_with fail
                    go_quiet (fail)
                    have hF : F s (j + 1) = F s j := by simp [F, hfst]
                    have HX := hide (And.intro (HT.out.1.drewN nq) (show (wr.drewN nq).ownsRow w.heap.size 3 1 (.slice ao on oc) (F s (j + 1)).length (ints3 (F s (j + 1))) from hF ▸ HT.out.2))
                    generalize wr.drewN nq = w9 at HX ⊢
                    clear HT
                    go_wp2
                    go_roundw
                    case rel => first | exact ⟨j + 1, by go_num, by omega, HX, _, _, _, rfl⟩ | (refine ⟨trivial, ?_⟩; (repeat apply Exists.intro); exact ⟨⟨j + 1, by go_num, by omega, HX, _, _, _, rfl⟩, rfl⟩)
                    case measure => simp [intOf]; omega
        · obtain rfl : j = ks.length := by omega
          obtain ⟨wv, rfl⟩ : ∃ wv, wv = wr := ⟨_, rfl⟩
          obtain rfl : on = (F s ks.length).length := by
            rcases HJ.out.2.2 with ⟨e1, e2⟩ | ⟨g', cap', cur', e1, _⟩
            · cases e1
              exact e2.symm
            · cases e1
              rfl
          have hFl : (F s ks.length).length ≤ ks.length := F_len s ks.length
          obtain ⟨fl, hfl⟩ : ∃ fl, fl = (F s ks.length).length := ⟨_, rfl⟩
          rw [← hfl] at hFl
          have HFL := hide hfl
          clear hfl
          rw [← HFL.out]
          go_wp2_with fail
          go_loop [23, 24, 25] (fun c d q => ∃ t : Nat, q = .int .i64 t ∧ t ≤ fl ∧ c = .int .i64 ((cn l t : Nat) : Int) ∧ d = .bool (dr l t)) (fun _ _ q => fl - (intOf q).toNat)
          case atStart => exact ⟨0, rfl, Nat.zero_le _, rfl, rfl⟩
          case round =>
            obtain ⟨t, rfl, ht, rfl, rfl⟩ := hrel
            by_cases htn : t < fl
            · have hcl := cn_le l t
              have hci := cn_step_int l t
              have hdr : dr l (t + 1) = (dr l t || decide (l < cn l t + 1)) := rfl
              by_cases hcut : (l : Int) < (cn l t : Int) + 1
              · rw [if_pos hcut] at hci
                have hd1 : dr l (t + 1) = true := by rw [hdr]; simp; omega
                go_wp2
                go_round
                case rel => exact ⟨t + 1, by go_num, by omega, by rw [← hci], by rw [hd1]⟩
                case measure => simp [intOf]; omega
              · rw [if_neg hcut] at hci
                have hd1 : dr l (t + 1) = dr l t := by rw [hdr]; simp; omega
                go_wp2
                go_round
                case rel => exact ⟨t + 1, by go_num, by omega, by rw [← hci], by rw [hd1]⟩
                case measure => simp [intOf]; omega
            · obtain rfl : fl = t := by omega
              obtain ⟨M, ms, H1, H2, H3⟩ := HJ.out.1.sj
              have hkl := kept_len s l ks.length
              go_wp2_with fail
              refine (readH H1 (by omega) (kept_goods hgs.out l ks.length)).mono ?_
              rintro ex w5 ⟨B0, B1, B2, B3, B4, rfl, hsv, hb5⟩
              have hkc : (kept s l ks.length).length = cn l fl := by rw [kept_length, ← HFL.out]
              have hcle := cn_le l fl
              have HR0 : wv.ownsRow w.heap.size 3 1 (.slice ao fl oc) (F s ks.length).length (ints3 (F s ks.length)) := by
                have hr0 := HJ.out.2
                rw [← HFL.out] at hr0 ⊢
                exact hr0
              have HT0 : Hid (T5 w s l h mb E ks.length (decide (ks.length = 0)) ms M (.slice ao fl oc) wv.heap.size B0 B1 B2 B3 B4 w5) :=
                ⟨HJ.out.1.below.trans (hb5.mono HJ.out.1.below.size), H1.next hb5.block, HJ.out.1.ep.tf (TF.of_below hb5), ownsRow_of_block HR0 fun k hk => hb5.block k (HR0.lt k hk).2, hsv⟩
              have HLL : Hid (mlen (some mb) M = ((lasts s ks.length ks.length : Nat) : Int)) := by
                show (if (some mb).isNone then (0 : Int) else (Maps.size M : Int)) = _
                rw [H2.size]
                rfl
              have HM2 := hide H2
              have HOL : Hid (oldest s l ks.length = if dr l fl then ((ep s ((F s ks.length).getD (fl - cn l fl - 1) 0) : Nat) : Int) else 0) := by
                rw [HFL.out]
                rfl
              have HDL := hide (dr_lt l fl)
              have HCN : Hid (∀ t, t < cn l fl → (kept s l ks.length)[t]? = some (entOf s ((F s ks.length).getD (fl - cn l fl + t) 0))) := by
                rw [HFL.out]
                exact fun t ht => kept_get ht
              have HMK : Hid (((ks.length : Int) == 0) = decide (ks.length = 0)) := by
                by_cases h0 : ks.length = 0
                · rw [h0]; rfl
                · rw [decide_eq_false h0]
                  exact beq_eq_false_iff_ne.2 (by omega)
              clear hsv hb5 H1 H2 H3 HJ HR0
              rw [hkc]
              clear hkc hkl
              obtain ⟨S0, hS0⟩ : ∃ S0, S0 = wv.heap.size := ⟨_, rfl⟩
              rw [← hS0] at HT0
              generalize cn l fl = c at hcle HOL HDL HCN ⊢
              generalize dr l fl = d at HOL HDL ⊢
              generalize mlen (some mb) M = ll at HLL ⊢
              generalize hmk : decide (ks.length = 0) = mk at HT0 HMK ⊢
              generalize hold : oldest s l ks.length = old at HOL ⊢
              clear hmk
              have HOLD := hide hold
              clear hold
              rw [show (some mb).isNone = false from rfl]
              have hmk1 := HMK.out
              cases d
              · as_aux_lemma =>
                  have hol : old = 0 := HOL.out
                  clear HOL HDL
                  subst hol
                  go_wp2_with (first
                    | (show wpList _ _ _ (Oper.mk _ (Op.store 44 (.tmp 26) (.tmp 183)) _ _ _ _ :: _) _ _; refine wpList_store_all rfl 44 (.tmp 26) (.tmp 183) rfl w5.heap.size 0 (view (ec s ks.length : Nat) mk B0 B1 B2 B3 B4 c false ll 0 (l : Int)) rfl rfl (thereV _ _ _ _ _ _ _ _ _ _ _ _) size44 (view_one _ _ _ _ _ _ _ _ _ _ _ _) ?_
                       intro w6 hw6
                       obtain ⟨hb6, hv6⟩ := boxedV (z := c44) (vw := (view (ec s ks.length : Nat) mk B0 B1 B2 B3 B4 c false ll 0 (l : Int))) (by simp [view, c44]) hw6
                       have HT6 := hide (HT0.out.next hb6)
                       have HV6 := hide hv6
                       have cv0 : w6.cell? ⟨w5.heap.size, 0, none⟩ = some (.int .u64 (ec s ks.length : Nat)) := hcell hv6 0 rfl
                       have cv1 : w6.cell? ⟨w5.heap.size, 1, none⟩ = some (.bool mk) := hcell hv6 1 rfl
                       have cv7 : w6.cell? ⟨w5.heap.size, 7, none⟩ = some (.bool false) := hcell hv6 7 rfl
                       have cv9 : w6.cell? ⟨w5.heap.size, 9, none⟩ = some (.int .u64 0) := hcell hv6 9 rfl
                       have cv10 : w6.cell? ⟨w5.heap.size, 10, none⟩ = some (.int .i64 (l : Int)) := hcell hv6 10 rfl
                       clear hw6 hb6 hv6 HT0)
                    | (show wpList _ _ _ (Oper.mk _ (Op.load 44 (.tmp 26)) _ _ _ _ :: _) _ _; refine wpList_load_row rfl 44 (.tmp 26) rfl w5.heap.size rfl 44 (view (ec s ks.length : Nat) mk B0 B1 B2 B3 B4 c false ll 0 (l : Int)) (0, 0) _ HV6.out Try.underlying44 rfl size44 ?_))
                  refine (lens20 (ec s ks.length : Nat) mk B0 B1 B2 B3 B4 c false ll 0 (l : Int) w6 (by omega)).mono ?_
                  rintro ex w7 ⟨rfl, hb7⟩
                  have HT7 : Hid (T5 w s l h mb E ks.length mk ms M (.slice ao fl oc) S0 B0 B1 B2 B3 B4 w7 ∧ w7.heap[w5.heap.size]? = some (.cells (view (ec s ks.length : Nat) mk B0 B1 B2 B3 B4 c false ll 0 (l : Int)) 44 (0, 0))) := ⟨HT6.out.next hb7, (hb7.block _ (lt_of_heap HV6.out)).trans HV6.out⟩
                  clear hb7 HT6 HV6 cv0 cv1 cv7 cv9 cv10 
                  generalize w5.heap.size = bv at HT7 ⊢
                  go_wp2_with fail
                  go_loopw [29] (fun qv wr => ∃ t : Nat, qv = .int .i64 t ∧ t ≤ c ∧ Hid (T5 w s l h mb E ks.length mk ms M (.slice ao fl oc) S0 B0 B1 B2 B3 B4 wr ∧ wr.heap[bv]? = some (.cells (view (ec s ks.length : Nat) mk B0 B1 B2 B3 B4 c false ll 0 (l : Int)) 44 (0, 0)))) (fun qv _ => c - (intOf qv).toNat)
                  case atStart => exact ⟨0, rfl, Nat.zero_le _, HT7⟩
                  case round =>
                    obtain ⟨t, rfl, ht, HT⟩ := hrel
                    by_cases htc : t < c
                    · obtain ⟨i2, hi2⟩ : ∃ i2, i2 = fl - c + t := ⟨_, rfl⟩
                      have hix2 : (fl : Int) - (c : Int) + (t : Int) = (i2 : Int) := by omega
                      have hil2 : i2 < (F s ks.length).length := by rw [← HFL.out]; omega
                      obtain ⟨gg, eg, cg2⟩ := row3_at HT.out.1.row hil2
                      cases eg
                      obtain ⟨q2, hq2⟩ : ∃ q2, (F s ks.length).getD i2 0 = q2 := ⟨_, rfl⟩
                      have hqm2 : q2 < ks.length := hq2 ▸ F_get_lt hil2
                      rw [hq2] at cg2
                      have hkq := HCN.out t htc
                      rw [← hi2, hq2] at hkq
                      have hdq := hgs.out.dev q2
                      obtain ⟨p0, p1, p2, p3, p4⟩ := HT.out.1.seen.at hkq hdq
                      have p0' : wr.cell? ⟨B0, t, none⟩ = some (.int .u64 ((ep s q2 : Nat) : Int)) := p0
                      have p2' : wr.cell? ⟨B2, t, none⟩ = some (.int .i64 (s.wl q2)) := p2
                      have p3' : wr.cell? ⟨B3, t, none⟩ = some (.int .u32 (s.ct q2)) := p3
                      have p4' : wr.cell? ⟨B4, t, none⟩ = some (.bool (s.hd q2)) := p4
                      have ce2 := HT.out.1.ep.val hqm2
                      have hbw := HT.out.1.below
                      obtain ⟨Dq, hDq⟩ : ∃ Dq, ks[q2]? = some Dq := ⟨_, List.getElem?_eq_getElem hqm2⟩
                      have hdd : s.D q2 = Dq := by rw [HSD.out]; show ks.getD q2 z16 = Dq; rw [List.getD_eq_getElem?_getD, hDq]; rfl
                      have p1' : wr.rangeAt B1 (t * 16) Dq := hdd ▸ p1
                      have hdv : Dev Dq := hdd ▸ hdq
                      obtain ⟨kb, koff, rfl, hkb, hkr⟩ := HK.out.2 (fun e => by rw [e] at hDq; cases hDq)
                      have HKR := hide (hkr q2 Dq hDq)
                      have l1 : ∀ n, (Instr.loadAt 34 (.pointer (some ⟨B1, t * 16, none⟩))).run Try.prog (wr.drewN n) = .ok (.agg Dq.toArray) (wr.drewN n) := fun n => run_loadAt_mid (wr.drewN n) B1 (t * 16) 34 Dq _ p1' Try.underlying34 rfl (by rw [hdv.1]; exact size34)
                      have l2 : ∀ n, (Instr.loadAt 34 (.pointer (some ⟨kb, koff + q2 * 16, none⟩))).run Try.prog (wr.drewN n) = .ok (.agg Dq.toArray) (wr.drewN n) := fun n => run_loadAt_mid (wr.drewN n) kb (koff + q2 * 16) 34 Dq _ (rangeAt_below HKR.out (hbw.block kb hkb)) Try.underlying34 rfl (by rw [hdv.1]; exact size34)
                      have k18 : ∀ n, Calls Try.prog 18 #[.slice wa ws.length wc, .int .i64 q2] (wr.drewN n) fun e w'' => e = .returned (.int .i64 (s.wl q2)) ∧ ∃ m, w'' = wr.drewN m := fun n => by
                        have := wallAt18 (wr.drewN n) wa wc q2 ws (HW.out.next (Below.drewN hbw n)) (by omega) (by omega)
                        rw [show ws.getD q2 0 = s.wl q2 by rw [HSD.out]; rfl] at this
                        exact this.mono fun e w'' ⟨h1, h2⟩ => ⟨h1, n, h2.symm⟩
                      have k19 : ∀ n, Calls Try.prog 19 #[.slice ca cs.length cc, .int .i64 q2] (wr.drewN n) fun e w'' => e = .returned (.int .u32 (s.ct q2)) ∧ ∃ m, w'' = wr.drewN m := fun n => by
                        have := countAt19 (wr.drewN n) ca cc q2 cs (HC.out.next (Below.drewN hbw n)) (by omega) (by omega)
                        rw [show cs.getD q2 0 = s.ct q2 by rw [HSD.out]; rfl] at this
                        exact this.mono fun e w'' ⟨h1, h2⟩ => ⟨h1, n, h2.symm⟩
                      have k16 : ∀ n, Calls Try.prog 16 #[.slice ha hs.length hc, .int .i64 q2] (wr.drewN n) fun e w'' => e = .returned (.bool (s.hd q2)) ∧ ∃ m, w'' = wr.drewN m := fun n => by
                        have := boolAt16 (wr.drewN n) ha hc q2 hs (HH.out.next (Below.drewN hbw n)) (by omega) (by omega)
                        rw [show hs.getD q2 false = s.hd q2 by rw [HSD.out]; rfl] at this
                        exact this.mono fun e w'' ⟨h1, h2⟩ => ⟨h1, n, h2.symm⟩
                      have f2 : wr.cell? ⟨bv, 2, none⟩ = some (.slice (some ⟨B0, 0, none⟩) c c) := hcell HT.out.2 2 rfl
                      have f3 : wr.cell? ⟨bv, 3, none⟩ = some (.slice (some ⟨B1, 0, none⟩) c c) := hcell HT.out.2 3 rfl
                      have f4 : wr.cell? ⟨bv, 4, none⟩ = some (.slice (some ⟨B2, 0, none⟩) c c) := hcell HT.out.2 4 rfl
                      have f5 : wr.cell? ⟨bv, 5, none⟩ = some (.slice (some ⟨B3, 0, none⟩) c c) := hcell HT.out.2 5 rfl
                      have f6 : wr.cell? ⟨bv, 6, none⟩ = some (.slice (some ⟨B4, 0, none⟩) c c) := hcell HT.out.2 6 rfl
                      have HDV := hide hdv
                      clear p0 p1 p2 p3 p4 p1' hkq hdq hbw hDq hdd hkr hi2 hq2 hil2 hdv
                      generalize ep s q2 = x0 at p0' ce2
                      generalize s.wl q2 = x1 at p2' k18
                      generalize s.ct q2 = x2 at p3' k19
                      generalize s.hd q2 = x3 at p4' k16
                      go_wp2_with fail
                      refine wp_region_quiet_lit (by kernel_rfl) (by kernel_rfl) ?_
                      iterate 15 (go_big_quiet_step (fail))
                      refine wpQuiet_by rfl fun K hK => quiet_load 34 (.tmp 254) rfl (.agg Dq.toArray) (by rintro _ ⟨n, rfl⟩; exact l1 n) (hK _ ?_)
                      simp only [Act.put, List.setIfInBounds_toArray, List.set_cons_succ, List.set_cons_zero]
                      clear hK K
                      iterate 3 (go_big_quiet_step (fail))
                      refine wpQuiet_by rfl fun K hK => quiet_load 34 (.tmp 258) rfl (.agg Dq.toArray) (by rintro _ ⟨n, rfl⟩; exact l2 n) (hK _ ?_)
                      simp only [Act.put, List.setIfInBounds_toArray, List.set_cons_succ, List.set_cons_zero]
                      clear hK K
                      refine wpQuiet_by rfl fun K hK => quiet_binop .neq 34 (.tmp 255) (.tmp 259) 34 rfl (.bool false) (fun w _ => neq34 w HDV.out _ _) (hK _ ?_)
                      simp only [Act.put, List.setIfInBounds_toArray, List.set_cons_succ, List.set_cons_zero]
                      clear hK K
                      repeat (go_big_quiet_step (first | exact k18 _ | exact k19 _ | exact k16 _))
                      refine wpQuiet_nil ?_
                      intro _ hw'
                      obtain ⟨nq, rfl⟩ := hw'
                      have HT8 : Hid (T5 w s l h mb E ks.length mk ms M (.slice (some ⟨gg, 0, none⟩) fl oc) S0 B0 B1 B2 B3 B4 (wr.drewN nq) ∧ (wr.drewN nq).heap[bv]? = some (.cells (view (ec s ks.length : Nat) mk B0 B1 B2 B3 B4 c false ll 0 (l : Int)) 44 (0, 0))) := ⟨HT.out.1.next (Below.drewN (Below.refl wr.heap.size wr) nq), HT.out.2⟩
                      go_wp2
                      go_roundw
                      case rel => first | exact ⟨t + 1, by go_num, by omega, HT8⟩ | (refine ⟨trivial, ?_⟩; (repeat apply Exists.intro); exact ⟨⟨t + 1, by go_num, by omega, HT8⟩, rfl⟩)
                      case measure => simp [intOf]; omega
                    · obtain rfl : c = t := by omega
                      obtain ⟨wz, rfl⟩ : ∃ wz, wz = wr := ⟨_, rfl⟩
                      clear HT7
                      go_wp2_with fail
                      go_loopw [31, 32] (fun dv qv wr => ∃ j : Nat, dv = .int .i64 ((lasts s ks.length j : Nat) : Int) ∧ qv = .int .i64 j ∧ j ≤ ks.length ∧ Hid (T5 w s l h mb E ks.length mk ms M (.slice ao fl oc) S0 B0 B1 B2 B3 B4 wr ∧ wr.heap[bv]? = some (.cells (view (ec s ks.length : Nat) mk B0 B1 B2 B3 B4 c false ll 0 (l : Int)) 44 (0, 0)))) (fun _ qv _ => ks.length - (intOf qv).toNat)
                      case atStart => exact ⟨0, rfl, rfl, Nat.zero_le _, HT⟩
                      case round =>
                        obtain ⟨j, rfl, rfl, hj, HJ⟩ := hrel
                        by_cases hjn : j < ks.length
                        · obtain ⟨wp, rfl⟩ : ∃ wp, wp = wr := ⟨_, rfl⟩
                          have hlj := lasts_le s ks.length j
                          go_wp2_with fail
                          go_loopw [33, 34] (fun b qv wr => ∃ t : Nat, b = .bool true ∧ qv = .int .i64 t ∧ j + 1 ≤ t ∧ t ≤ ks.length ∧ Hid (ClearUp s j t) ∧ Hid (T5 w s l h mb E ks.length mk ms M (.slice ao fl oc) S0 B0 B1 B2 B3 B4 wr ∧ wr.heap[bv]? = some (.cells (view (ec s ks.length : Nat) mk B0 B1 B2 B3 B4 c false ll 0 (l : Int)) 44 (0, 0)))) (fun _ qv _ => ks.length - (intOf qv).toNat)
                          case atStart => exact ⟨j + 1, rfl, by go_num, Nat.le_refl _, hjn, (fun k k1 k2 => by omega), HJ⟩
                          case round =>
                            obtain ⟨t, rfl, rfl, hjt, ht, HU, HT⟩ := hrel
                            have hkne : ks ≠ [] := fun e => by rw [e] at hjn; cases hjn
                            obtain ⟨Dj, hDj⟩ : ∃ Dj, ks[j]? = some Dj := ⟨_, List.getElem?_eq_getElem hjn⟩
                            obtain ⟨kb, koff, rfl, hkb, hkr⟩ := HK.out.2 hkne
                            have hdj : s.D j = Dj := by rw [HSD.out]; show ks.getD j z16 = Dj; rw [List.getD_eq_getElem?_getD, hDj]; rfl
                            have hvj : Dev Dj := hdj ▸ hgs.out.dev j
                            have HRJ := hide (hkr j Dj hDj)
                            have HVJ := hide hvj
                            by_cases htn : t < ks.length
                            · obtain ⟨Dk, hDk⟩ : ∃ Dk, ks[t]? = some Dk := ⟨_, List.getElem?_eq_getElem htn⟩
                              have hdk : s.D t = Dk := by rw [HSD.out]; show ks.getD t z16 = Dk; rw [List.getD_eq_getElem?_getD, hDk]; rfl
                              have hvk : Dev Dk := hdk ▸ hgs.out.dev t
                              have HRK := hide (hkr t Dk hDk)
                              have hsd : sameDev Dk Dj = true ↔ s.key t = s.key j := by
                                rw [hgs.out.key t, hgs.out.key j, hdj, hdk]
                                simp [sameDev]
                              have HSD2 := hide hsd
                              have HVK := hide hvk
                              have lk : ∀ n, (Instr.loadAt 34 (.pointer (some ⟨kb, koff + t * 16, none⟩))).run Try.prog (wr.drewN n) = .ok (.agg Dk.toArray) (wr.drewN n) := fun n => run_loadAt_mid (wr.drewN n) kb (koff + t * 16) 34 Dk _ (rangeAt_below HRK.out (HT.out.1.below.block kb hkb)) Try.underlying34 rfl (by rw [HVK.out.1]; exact size34)
                              have lj : ∀ n, (Instr.loadAt 34 (.pointer (some ⟨kb, koff + j * 16, none⟩))).run Try.prog (wr.drewN n) = .ok (.agg Dj.toArray) (wr.drewN n) := fun n => run_loadAt_mid (wr.drewN n) kb (koff + j * 16) 34 Dj _ (rangeAt_below HRJ.out (HT.out.1.below.block kb hkb)) Try.underlying34 rfl (by rw [HVJ.out.1]; exact size34)
                              clear hkr hDj hDk hdj hdk hsd hvj hvk
                              go_wp2_with fail
                              refine wp_region_quiet_lit (by kernel_rfl) (by kernel_rfl) ?_
                              iterate 3 (go_big_quiet_step (fail))
                              refine wpQuiet_by rfl fun K hK => quiet_load 34 (.tmp 309) rfl (.agg Dk.toArray) (by rintro _ ⟨n, rfl⟩; exact lk n) (hK _ ?_)
                              simp only [Act.put, List.setIfInBounds_toArray, List.set_cons_succ, List.set_cons_zero]
                              clear hK K
                              iterate 3 (go_big_quiet_step (fail))
                              refine wpQuiet_by rfl fun K hK => quiet_load 34 (.tmp 313) rfl (.agg Dj.toArray) (by rintro _ ⟨n, rfl⟩; exact lj n) (hK _ ?_)
                              simp only [Act.put, List.setIfInBounds_toArray, List.set_cons_succ, List.set_cons_zero]
                              clear hK K
                              refine wpQuiet_by rfl fun K hK => quiet_binop .eql 34 (.tmp 310) (.tmp 314) 34 rfl (.bool (sameDev Dk Dj)) (fun w _ => eql34' w HVK.out HVJ.out _ _) (hK _ ?_)
                              simp only [Act.put, List.setIfInBounds_toArray, List.set_cons_succ, List.set_cons_zero]
                              clear hK K
                              refine wpQuiet_nil ?_
                              intro _ hw'
                              obtain ⟨nq, rfl⟩ := hw'
                              have HT8 : Hid (T5 w s l h mb E ks.length mk ms M (.slice ao fl oc) S0 B0 B1 B2 B3 B4 (wr.drewN nq) ∧ (wr.drewN nq).heap[bv]? = some (.cells (view (ec s ks.length : Nat) mk B0 B1 B2 B3 B4 c false ll 0 (l : Int)) 44 (0, 0))) := ⟨HT.out.1.next (Below.drewN (Below.refl wr.heap.size wr) nq), HT.out.2⟩
                              generalize wr.drewN nq = w10 at HT8 ⊢
                              clear HT lk lj
                              generalize sameDev Dk Dj = c2 at HSD2 ⊢
                              cases c2
                              · have HU2 : Hid (ClearUp s j (t + 1)) := fun k k1 k2 k3 => by
                                  by_cases e : k = t
                                  · subst e
                                    have := HSD2.out.2 k3
                                    cases this
                                  · exact HU.out k k1 (by omega) k3
                                go_wp2
                                go_roundw
                                case rel => first | exact ⟨t + 1, rfl, by go_num, by omega, by omega, HU2, HT8⟩ | (refine ⟨trivial, ?_⟩; (repeat apply Exists.intro); exact ⟨⟨t + 1, rfl, by go_num, by omega, by omega, HU2, HT8⟩, rfl⟩)
                                case measure => simp [intOf]; omega
                              · have hls : lasts s ks.length (j + 1) = lasts s ks.length j := by
                                  have := ind_of_hit (s := s) (n := ks.length) (j := j) (k := t) (by omega) htn (HSD2.out.1 rfl)
                                  simp [lasts, this]
                                go_wp2
                                go_roundw
                                case rel => first | exact ⟨j + 1, by rw [hls], by go_num, by omega, HT8⟩ | (refine ⟨trivial, ?_⟩; (repeat apply Exists.intro); exact ⟨⟨j + 1, by rw [hls], by go_num, by omega, HT8⟩, rfl⟩)
                                case measure => simp [intOf]; omega
                            · obtain rfl : t = ks.length := by omega
                              have hls : lasts s ks.length (j + 1) = lasts s ks.length j + 1 := by
                                simp [lasts, ind_of_clear HU.out]
                              obtain ⟨z1, z2⟩ := HM2.out.last hjn HU.out
                              rw [hgs.out.key j, hdj] at z1 z2
                              have hv : mval (some mb) M Dj = ((ep s j : Nat) : Int) := by simp [mval, z2]
                              have hh : mhas (some mb) M Dj = true := by simp [mhas, z1]
                              have hlast := lastH HT.out.1.hst hvj
                              rw [hv, hh] at hlast
                              have HRG : Hid (wr.rangeAt kb (koff + j * 16) Dj) := rangeAt_below HRJ.out (HT.out.1.below.block kb hkb)
                              clear hkr hDj hdj hvj z1 z2 hv hh
                              go_wp2_with (show wpList _ _ _ (Oper.mk _ (Op.load 34 (.tmp 323)) _ _ _ _ :: _) _ _; refine wpList_load_mid rfl 34 (.tmp 323) rfl kb (koff + j * 16) rfl Dj _ HRG.out Try.underlying34 rfl (by rw [HVJ.out.1]; exact size34) ?_)
                              refine hlast.mono ?_
                              rintro ex w9 ⟨rfl, hb9⟩
                              have HT9 : Hid (T5 w s l h mb E ks.length mk ms M (.slice ao fl oc) S0 B0 B1 B2 B3 B4 w9 ∧ w9.heap[bv]? = some (.cells (view (ec s ks.length : Nat) mk B0 B1 B2 B3 B4 c false ll 0 (l : Int)) 44 (0, 0))) := ⟨HT.out.1.next hb9, (hb9.block _ (lt_of_heap HT.out.2)).trans HT.out.2⟩
                              have cej := HT9.out.1.ep.val hjn
                              clear hlast hb9 HT HRG
                              generalize ep s j = x0 at cej ⊢
                              go_wp2
                              go_roundw
                              case rel => first | exact ⟨j + 1, by rw [hls]; go_num, by go_num, by omega, HT9⟩ | (refine ⟨trivial, ?_⟩; (repeat apply Exists.intro); exact ⟨⟨j + 1, by rw [hls]; go_num, by go_num, by omega, HT9⟩, rfl⟩)
                              case measure => simp [intOf]; omega
                        · obtain rfl : j = ks.length := by omega
                          have hll := HLL.out
                          have hleq : (ll == ((lasts s ks.length ks.length : Nat) : Int)) = true := by rw [hll]; simp
                          have cv8 : wr.cell? ⟨bv, 8, none⟩ = some (.int .i64 ll) := hcell HJ.out.2 8 rfl
                          clear hll
                          go_wp2
                          go_ret
                          exact ⟨rfl, HJ.out.1.below⟩
              · as_aux_lemma =>
                  have hcf : c < fl := HDL.out rfl
                  obtain ⟨i, hi⟩ : ∃ i, fl = c + 1 + i := ⟨fl - (c + 1), by omega⟩
                  have hix : (fl : Int) - (c : Int) - 1 = (i : Int) := by omega
                  have hil : i < (F s ks.length).length := by rw [← HFL.out]; omega
                  obtain ⟨g, rfl, hg0⟩ := row3_at HT0.out.row hil
                  obtain ⟨q, hq⟩ : ∃ q, (F s ks.length).getD i 0 = q := ⟨_, rfl⟩
                  have hqm : q < ks.length := hq ▸ F_get_lt hil
                  have hol : old = ((ep s q : Nat) : Int) := by
                    rw [HOL.out, show fl - c - 1 = i by omega, hq]
                    rfl
                  have HQ := hide hq
                  clear hq hi hg0
                  clear HOL HDL
                  subst hol
                  go_wp2_with (first
                    | (show wpList _ _ _ (Oper.mk _ (Op.store 44 (.tmp 26) (.tmp 183)) _ _ _ _ :: _) _ _; refine wpList_store_all rfl 44 (.tmp 26) (.tmp 183) rfl w5.heap.size 0 (view (ec s ks.length : Nat) mk B0 B1 B2 B3 B4 c false ll ((ep s q : Nat) : Int) (l : Int)) rfl rfl (thereV _ _ _ _ _ _ _ _ _ _ _ _) size44 (view_one _ _ _ _ _ _ _ _ _ _ _ _) ?_
                       intro w6 hw6
                       obtain ⟨hb6, hv6⟩ := boxedV (z := c44) (vw := (view (ec s ks.length : Nat) mk B0 B1 B2 B3 B4 c false ll ((ep s q : Nat) : Int) (l : Int))) (by simp [view, c44]) hw6
                       have HT6 := hide (HT0.out.next hb6)
                       have HV6 := hide hv6
                       have cv0 : w6.cell? ⟨w5.heap.size, 0, none⟩ = some (.int .u64 (ec s ks.length : Nat)) := hcell hv6 0 rfl
                       have cv1 : w6.cell? ⟨w5.heap.size, 1, none⟩ = some (.bool mk) := hcell hv6 1 rfl
                       have cv7 : w6.cell? ⟨w5.heap.size, 7, none⟩ = some (.bool false) := hcell hv6 7 rfl
                       have cv9 : w6.cell? ⟨w5.heap.size, 9, none⟩ = some (.int .u64 ((ep s q : Nat) : Int)) := hcell hv6 9 rfl
                       have cv10 : w6.cell? ⟨w5.heap.size, 10, none⟩ = some (.int .i64 (l : Int)) := hcell hv6 10 rfl
                       have cg : w6.cell? ⟨g, i, none⟩ = some (.int .i64 (q : Int)) := by
                         obtain ⟨g', e1, e2⟩ := row3_at HT6.out.row hil
                         cases e1
                         rw [HQ.out] at e2
                         exact e2
                       have ce := HT6.out.ep.val hqm
                       clear hw6 hb6 hv6 HT0)
                    | (show wpList _ _ _ (Oper.mk _ (Op.load 44 (.tmp 26)) _ _ _ _ :: _) _ _; refine wpList_load_row rfl 44 (.tmp 26) rfl w5.heap.size rfl 44 (view (ec s ks.length : Nat) mk B0 B1 B2 B3 B4 c false ll ((ep s q : Nat) : Int) (l : Int)) (0, 0) _ HV6.out Try.underlying44 rfl size44 ?_))
                  refine (lens20 (ec s ks.length : Nat) mk B0 B1 B2 B3 B4 c false ll ((ep s q : Nat) : Int) (l : Int) w6 (by omega)).mono ?_
                  rintro ex w7 ⟨rfl, hb7⟩
                  have HT7 : Hid (T5 w s l h mb E ks.length mk ms M (.slice (some ⟨g, 0, none⟩) fl oc) S0 B0 B1 B2 B3 B4 w7 ∧ w7.heap[w5.heap.size]? = some (.cells (view (ec s ks.length : Nat) mk B0 B1 B2 B3 B4 c false ll ((ep s q : Nat) : Int) (l : Int)) 44 (0, 0))) := ⟨HT6.out.next hb7, (hb7.block _ (lt_of_heap HV6.out)).trans HV6.out⟩
                  clear hb7 HT6 HV6 cv0 cv1 cv7 cv9 cv10 cg ce
                  generalize w5.heap.size = bv at HT7 ⊢
                  go_wp2_with fail
                  go_loopw [29] (fun qv wr => ∃ t : Nat, qv = .int .i64 t ∧ t ≤ c ∧ Hid (T5 w s l h mb E ks.length mk ms M (.slice (some ⟨g, 0, none⟩) fl oc) S0 B0 B1 B2 B3 B4 wr ∧ wr.heap[bv]? = some (.cells (view (ec s ks.length : Nat) mk B0 B1 B2 B3 B4 c false ll ((ep s q : Nat) : Int) (l : Int)) 44 (0, 0)))) (fun qv _ => c - (intOf qv).toNat)
                  case atStart => exact ⟨0, rfl, Nat.zero_le _, HT7⟩
                  case round =>
                    obtain ⟨t, rfl, ht, HT⟩ := hrel
                    by_cases htc : t < c
                    · obtain ⟨i2, hi2⟩ : ∃ i2, i2 = fl - c + t := ⟨_, rfl⟩
                      have hix2 : (fl : Int) - (c : Int) + (t : Int) = (i2 : Int) := by omega
                      have hil2 : i2 < (F s ks.length).length := by rw [← HFL.out]; omega
                      obtain ⟨gg, eg, cg2⟩ := row3_at HT.out.1.row hil2
                      cases eg
                      obtain ⟨q2, hq2⟩ : ∃ q2, (F s ks.length).getD i2 0 = q2 := ⟨_, rfl⟩
                      have hqm2 : q2 < ks.length := hq2 ▸ F_get_lt hil2
                      rw [hq2] at cg2
                      have hkq := HCN.out t htc
                      rw [← hi2, hq2] at hkq
                      have hdq := hgs.out.dev q2
                      obtain ⟨p0, p1, p2, p3, p4⟩ := HT.out.1.seen.at hkq hdq
                      have p0' : wr.cell? ⟨B0, t, none⟩ = some (.int .u64 ((ep s q2 : Nat) : Int)) := p0
                      have p2' : wr.cell? ⟨B2, t, none⟩ = some (.int .i64 (s.wl q2)) := p2
                      have p3' : wr.cell? ⟨B3, t, none⟩ = some (.int .u32 (s.ct q2)) := p3
                      have p4' : wr.cell? ⟨B4, t, none⟩ = some (.bool (s.hd q2)) := p4
                      have ce2 := HT.out.1.ep.val hqm2
                      have hbw := HT.out.1.below
                      obtain ⟨Dq, hDq⟩ : ∃ Dq, ks[q2]? = some Dq := ⟨_, List.getElem?_eq_getElem hqm2⟩
                      have hdd : s.D q2 = Dq := by rw [HSD.out]; show ks.getD q2 z16 = Dq; rw [List.getD_eq_getElem?_getD, hDq]; rfl
                      have p1' : wr.rangeAt B1 (t * 16) Dq := hdd ▸ p1
                      have hdv : Dev Dq := hdd ▸ hdq
                      obtain ⟨kb, koff, rfl, hkb, hkr⟩ := HK.out.2 (fun e => by rw [e] at hDq; cases hDq)
                      have HKR := hide (hkr q2 Dq hDq)
                      have l1 : ∀ n, (Instr.loadAt 34 (.pointer (some ⟨B1, t * 16, none⟩))).run Try.prog (wr.drewN n) = .ok (.agg Dq.toArray) (wr.drewN n) := fun n => run_loadAt_mid (wr.drewN n) B1 (t * 16) 34 Dq _ p1' Try.underlying34 rfl (by rw [hdv.1]; exact size34)
                      have l2 : ∀ n, (Instr.loadAt 34 (.pointer (some ⟨kb, koff + q2 * 16, none⟩))).run Try.prog (wr.drewN n) = .ok (.agg Dq.toArray) (wr.drewN n) := fun n => run_loadAt_mid (wr.drewN n) kb (koff + q2 * 16) 34 Dq _ (rangeAt_below HKR.out (hbw.block kb hkb)) Try.underlying34 rfl (by rw [hdv.1]; exact size34)
                      have k18 : ∀ n, Calls Try.prog 18 #[.slice wa ws.length wc, .int .i64 q2] (wr.drewN n) fun e w'' => e = .returned (.int .i64 (s.wl q2)) ∧ ∃ m, w'' = wr.drewN m := fun n => by
                        have := wallAt18 (wr.drewN n) wa wc q2 ws (HW.out.next (Below.drewN hbw n)) (by omega) (by omega)
                        rw [show ws.getD q2 0 = s.wl q2 by rw [HSD.out]; rfl] at this
                        exact this.mono fun e w'' ⟨h1, h2⟩ => ⟨h1, n, h2.symm⟩
                      have k19 : ∀ n, Calls Try.prog 19 #[.slice ca cs.length cc, .int .i64 q2] (wr.drewN n) fun e w'' => e = .returned (.int .u32 (s.ct q2)) ∧ ∃ m, w'' = wr.drewN m := fun n => by
                        have := countAt19 (wr.drewN n) ca cc q2 cs (HC.out.next (Below.drewN hbw n)) (by omega) (by omega)
                        rw [show cs.getD q2 0 = s.ct q2 by rw [HSD.out]; rfl] at this
                        exact this.mono fun e w'' ⟨h1, h2⟩ => ⟨h1, n, h2.symm⟩
                      have k16 : ∀ n, Calls Try.prog 16 #[.slice ha hs.length hc, .int .i64 q2] (wr.drewN n) fun e w'' => e = .returned (.bool (s.hd q2)) ∧ ∃ m, w'' = wr.drewN m := fun n => by
                        have := boolAt16 (wr.drewN n) ha hc q2 hs (HH.out.next (Below.drewN hbw n)) (by omega) (by omega)
                        rw [show hs.getD q2 false = s.hd q2 by rw [HSD.out]; rfl] at this
                        exact this.mono fun e w'' ⟨h1, h2⟩ => ⟨h1, n, h2.symm⟩
                      have f2 : wr.cell? ⟨bv, 2, none⟩ = some (.slice (some ⟨B0, 0, none⟩) c c) := hcell HT.out.2 2 rfl
                      have f3 : wr.cell? ⟨bv, 3, none⟩ = some (.slice (some ⟨B1, 0, none⟩) c c) := hcell HT.out.2 3 rfl
                      have f4 : wr.cell? ⟨bv, 4, none⟩ = some (.slice (some ⟨B2, 0, none⟩) c c) := hcell HT.out.2 4 rfl
                      have f5 : wr.cell? ⟨bv, 5, none⟩ = some (.slice (some ⟨B3, 0, none⟩) c c) := hcell HT.out.2 5 rfl
                      have f6 : wr.cell? ⟨bv, 6, none⟩ = some (.slice (some ⟨B4, 0, none⟩) c c) := hcell HT.out.2 6 rfl
                      have HDV := hide hdv
                      clear p0 p1 p2 p3 p4 p1' hkq hdq hbw hDq hdd hkr hi2 hq2 hil2 hdv
                      generalize ep s q2 = x0 at p0' ce2
                      generalize s.wl q2 = x1 at p2' k18
                      generalize s.ct q2 = x2 at p3' k19
                      generalize s.hd q2 = x3 at p4' k16
                      go_wp2_with fail
                      refine wp_region_quiet_lit (by kernel_rfl) (by kernel_rfl) ?_
                      iterate 15 (go_big_quiet_step (fail))
                      refine wpQuiet_by rfl fun K hK => quiet_load 34 (.tmp 254) rfl (.agg Dq.toArray) (by rintro _ ⟨n, rfl⟩; exact l1 n) (hK _ ?_)
                      simp only [Act.put, List.setIfInBounds_toArray, List.set_cons_succ, List.set_cons_zero]
                      clear hK K
                      iterate 3 (go_big_quiet_step (fail))
                      refine wpQuiet_by rfl fun K hK => quiet_load 34 (.tmp 258) rfl (.agg Dq.toArray) (by rintro _ ⟨n, rfl⟩; exact l2 n) (hK _ ?_)
                      simp only [Act.put, List.setIfInBounds_toArray, List.set_cons_succ, List.set_cons_zero]
                      clear hK K
                      refine wpQuiet_by rfl fun K hK => quiet_binop .neq 34 (.tmp 255) (.tmp 259) 34 rfl (.bool false) (fun w _ => neq34 w HDV.out _ _) (hK _ ?_)
                      simp only [Act.put, List.setIfInBounds_toArray, List.set_cons_succ, List.set_cons_zero]
                      clear hK K
                      repeat (go_big_quiet_step (first | exact k18 _ | exact k19 _ | exact k16 _))
                      refine wpQuiet_nil ?_
                      intro _ hw'
                      obtain ⟨nq, rfl⟩ := hw'
                      have HT8 : Hid (T5 w s l h mb E ks.length mk ms M (.slice (some ⟨g, 0, none⟩) fl oc) S0 B0 B1 B2 B3 B4 (wr.drewN nq) ∧ (wr.drewN nq).heap[bv]? = some (.cells (view (ec s ks.length : Nat) mk B0 B1 B2 B3 B4 c false ll ((ep s q : Nat) : Int) (l : Int)) 44 (0, 0))) := ⟨HT.out.1.next (Below.drewN (Below.refl wr.heap.size wr) nq), HT.out.2⟩
                      go_wp2
                      go_roundw
                      case rel => first | exact ⟨t + 1, by go_num, by omega, HT8⟩ | (refine ⟨trivial, ?_⟩; (repeat apply Exists.intro); exact ⟨⟨t + 1, by go_num, by omega, HT8⟩, rfl⟩)
                      case measure => simp [intOf]; omega
                    · obtain rfl : c = t := by omega
                      obtain ⟨wz, rfl⟩ : ∃ wz, wz = wr := ⟨_, rfl⟩
                      clear HT7
                      go_wp2_with fail
                      go_loopw [31, 32] (fun dv qv wr => ∃ j : Nat, dv = .int .i64 ((lasts s ks.length j : Nat) : Int) ∧ qv = .int .i64 j ∧ j ≤ ks.length ∧ Hid (T5 w s l h mb E ks.length mk ms M (.slice (some ⟨g, 0, none⟩) fl oc) S0 B0 B1 B2 B3 B4 wr ∧ wr.heap[bv]? = some (.cells (view (ec s ks.length : Nat) mk B0 B1 B2 B3 B4 c false ll ((ep s q : Nat) : Int) (l : Int)) 44 (0, 0)))) (fun _ qv _ => ks.length - (intOf qv).toNat)
                      case atStart => exact ⟨0, rfl, rfl, Nat.zero_le _, HT⟩
                      case round =>
                        obtain ⟨j, rfl, rfl, hj, HJ⟩ := hrel
                        by_cases hjn : j < ks.length
                        · obtain ⟨wp, rfl⟩ : ∃ wp, wp = wr := ⟨_, rfl⟩
                          have hlj := lasts_le s ks.length j
                          go_wp2_with fail
                          go_loopw [33, 34] (fun b qv wr => ∃ t : Nat, b = .bool true ∧ qv = .int .i64 t ∧ j + 1 ≤ t ∧ t ≤ ks.length ∧ Hid (ClearUp s j t) ∧ Hid (T5 w s l h mb E ks.length mk ms M (.slice (some ⟨g, 0, none⟩) fl oc) S0 B0 B1 B2 B3 B4 wr ∧ wr.heap[bv]? = some (.cells (view (ec s ks.length : Nat) mk B0 B1 B2 B3 B4 c false ll ((ep s q : Nat) : Int) (l : Int)) 44 (0, 0)))) (fun _ qv _ => ks.length - (intOf qv).toNat)
                          case atStart => exact ⟨j + 1, rfl, by go_num, Nat.le_refl _, hjn, (fun k k1 k2 => by omega), HJ⟩
                          case round =>
                            obtain ⟨t, rfl, rfl, hjt, ht, HU, HT⟩ := hrel
                            have hkne : ks ≠ [] := fun e => by rw [e] at hjn; cases hjn
                            obtain ⟨Dj, hDj⟩ : ∃ Dj, ks[j]? = some Dj := ⟨_, List.getElem?_eq_getElem hjn⟩
                            obtain ⟨kb, koff, rfl, hkb, hkr⟩ := HK.out.2 hkne
                            have hdj : s.D j = Dj := by rw [HSD.out]; show ks.getD j z16 = Dj; rw [List.getD_eq_getElem?_getD, hDj]; rfl
                            have hvj : Dev Dj := hdj ▸ hgs.out.dev j
                            have HRJ := hide (hkr j Dj hDj)
                            have HVJ := hide hvj
                            by_cases htn : t < ks.length
                            · obtain ⟨Dk, hDk⟩ : ∃ Dk, ks[t]? = some Dk := ⟨_, List.getElem?_eq_getElem htn⟩
                              have hdk : s.D t = Dk := by rw [HSD.out]; show ks.getD t z16 = Dk; rw [List.getD_eq_getElem?_getD, hDk]; rfl
                              have hvk : Dev Dk := hdk ▸ hgs.out.dev t
                              have HRK := hide (hkr t Dk hDk)
                              have hsd : sameDev Dk Dj = true ↔ s.key t = s.key j := by
                                rw [hgs.out.key t, hgs.out.key j, hdj, hdk]
                                simp [sameDev]
                              have HSD2 := hide hsd
                              have HVK := hide hvk
                              have lk : ∀ n, (Instr.loadAt 34 (.pointer (some ⟨kb, koff + t * 16, none⟩))).run Try.prog (wr.drewN n) = .ok (.agg Dk.toArray) (wr.drewN n) := fun n => run_loadAt_mid (wr.drewN n) kb (koff + t * 16) 34 Dk _ (rangeAt_below HRK.out (HT.out.1.below.block kb hkb)) Try.underlying34 rfl (by rw [HVK.out.1]; exact size34)
                              have lj : ∀ n, (Instr.loadAt 34 (.pointer (some ⟨kb, koff + j * 16, none⟩))).run Try.prog (wr.drewN n) = .ok (.agg Dj.toArray) (wr.drewN n) := fun n => run_loadAt_mid (wr.drewN n) kb (koff + j * 16) 34 Dj _ (rangeAt_below HRJ.out (HT.out.1.below.block kb hkb)) Try.underlying34 rfl (by rw [HVJ.out.1]; exact size34)
                              clear hkr hDj hDk hdj hdk hsd hvj hvk
                              go_wp2_with fail
                              refine wp_region_quiet_lit (by kernel_rfl) (by kernel_rfl) ?_
                              iterate 3 (go_big_quiet_step (fail))
                              refine wpQuiet_by rfl fun K hK => quiet_load 34 (.tmp 309) rfl (.agg Dk.toArray) (by rintro _ ⟨n, rfl⟩; exact lk n) (hK _ ?_)
                              simp only [Act.put, List.setIfInBounds_toArray, List.set_cons_succ, List.set_cons_zero]
                              clear hK K
                              iterate 3 (go_big_quiet_step (fail))
                              refine wpQuiet_by rfl fun K hK => quiet_load 34 (.tmp 313) rfl (.agg Dj.toArray) (by rintro _ ⟨n, rfl⟩; exact lj n) (hK _ ?_)
                              simp only [Act.put, List.setIfInBounds_toArray, List.set_cons_succ, List.set_cons_zero]
                              clear hK K
                              refine wpQuiet_by rfl fun K hK => quiet_binop .eql 34 (.tmp 310) (.tmp 314) 34 rfl (.bool (sameDev Dk Dj)) (fun w _ => eql34' w HVK.out HVJ.out _ _) (hK _ ?_)
                              simp only [Act.put, List.setIfInBounds_toArray, List.set_cons_succ, List.set_cons_zero]
                              clear hK K
                              refine wpQuiet_nil ?_
                              intro _ hw'
                              obtain ⟨nq, rfl⟩ := hw'
                              have HT8 : Hid (T5 w s l h mb E ks.length mk ms M (.slice (some ⟨g, 0, none⟩) fl oc) S0 B0 B1 B2 B3 B4 (wr.drewN nq) ∧ (wr.drewN nq).heap[bv]? = some (.cells (view (ec s ks.length : Nat) mk B0 B1 B2 B3 B4 c false ll ((ep s q : Nat) : Int) (l : Int)) 44 (0, 0))) := ⟨HT.out.1.next (Below.drewN (Below.refl wr.heap.size wr) nq), HT.out.2⟩
                              generalize wr.drewN nq = w10 at HT8 ⊢
                              clear HT lk lj
                              generalize sameDev Dk Dj = c2 at HSD2 ⊢
                              cases c2
                              · have HU2 : Hid (ClearUp s j (t + 1)) := fun k k1 k2 k3 => by
                                  by_cases e : k = t
                                  · subst e
                                    have := HSD2.out.2 k3
                                    cases this
                                  · exact HU.out k k1 (by omega) k3
                                go_wp2
                                go_roundw
                                case rel => first | exact ⟨t + 1, rfl, by go_num, by omega, by omega, HU2, HT8⟩ | (refine ⟨trivial, ?_⟩; (repeat apply Exists.intro); exact ⟨⟨t + 1, rfl, by go_num, by omega, by omega, HU2, HT8⟩, rfl⟩)
                                case measure => simp [intOf]; omega
                              · have hls : lasts s ks.length (j + 1) = lasts s ks.length j := by
                                  have := ind_of_hit (s := s) (n := ks.length) (j := j) (k := t) (by omega) htn (HSD2.out.1 rfl)
                                  simp [lasts, this]
                                go_wp2
                                go_roundw
                                case rel => first | exact ⟨j + 1, by rw [hls], by go_num, by omega, HT8⟩ | (refine ⟨trivial, ?_⟩; (repeat apply Exists.intro); exact ⟨⟨j + 1, by rw [hls], by go_num, by omega, HT8⟩, rfl⟩)
                                case measure => simp [intOf]; omega
                            · obtain rfl : t = ks.length := by omega
                              have hls : lasts s ks.length (j + 1) = lasts s ks.length j + 1 := by
                                simp [lasts, ind_of_clear HU.out]
                              obtain ⟨z1, z2⟩ := HM2.out.last hjn HU.out
                              rw [hgs.out.key j, hdj] at z1 z2
                              have hv : mval (some mb) M Dj = ((ep s j : Nat) : Int) := by simp [mval, z2]
                              have hh : mhas (some mb) M Dj = true := by simp [mhas, z1]
                              have hlast := lastH HT.out.1.hst hvj
                              rw [hv, hh] at hlast
                              have HRG : Hid (wr.rangeAt kb (koff + j * 16) Dj) := rangeAt_below HRJ.out (HT.out.1.below.block kb hkb)
                              clear hkr hDj hdj hvj z1 z2 hv hh
                              go_wp2_with (show wpList _ _ _ (Oper.mk _ (Op.load 34 (.tmp 323)) _ _ _ _ :: _) _ _; refine wpList_load_mid rfl 34 (.tmp 323) rfl kb (koff + j * 16) rfl Dj _ HRG.out Try.underlying34 rfl (by rw [HVJ.out.1]; exact size34) ?_)
                              refine hlast.mono ?_
                              rintro ex w9 ⟨rfl, hb9⟩
                              have HT9 : Hid (T5 w s l h mb E ks.length mk ms M (.slice (some ⟨g, 0, none⟩) fl oc) S0 B0 B1 B2 B3 B4 w9 ∧ w9.heap[bv]? = some (.cells (view (ec s ks.length : Nat) mk B0 B1 B2 B3 B4 c false ll ((ep s q : Nat) : Int) (l : Int)) 44 (0, 0))) := ⟨HT.out.1.next hb9, (hb9.block _ (lt_of_heap HT.out.2)).trans HT.out.2⟩
                              have cej := HT9.out.1.ep.val hjn
                              clear hlast hb9 HT HRG
                              generalize ep s j = x0 at cej ⊢
                              go_wp2
                              go_roundw
                              case rel => first | exact ⟨j + 1, by rw [hls]; go_num, by go_num, by omega, HT9⟩ | (refine ⟨trivial, ?_⟩; (repeat apply Exists.intro); exact ⟨⟨j + 1, by rw [hls]; go_num, by go_num, by omega, HT9⟩, rfl⟩)
                              case measure => simp [intOf]; omega
                        · obtain rfl : j = ks.length := by omega
                          have hll := HLL.out
                          have hleq : (ll == ((lasts s ks.length ks.length : Nat) : Int)) = true := by rw [hll]; simp
                          have cv8 : wr.cell? ⟨bv, 8, none⟩ = some (.int .i64 ll) := hcell HJ.out.2 8 rfl
                          clear hll
                          go_wp2
                          go_ret
                          exact ⟨rfl, HJ.out.1.below⟩
end Go.Proofs.Qxb6603893a
