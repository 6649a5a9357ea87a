import Derived.Test.Qxb6603893aNote
namespace Go.Proofs.Qxb6603893a
open Go.RowKit Go.Maps
set_option linter.unusedVariables false

def bump (mk : Bool) (e : Int) : Int := if mk then IntKind.u64.wrap (e + 1) else e

/-- What stands when 'note' comes to its look-up. -/
structure S22 (w w2 : World) (h : Nat) (e' : Int) (chv : Value) (mb : Nat) (old lim : Int) (D : List Value) (wl ct : Value) : Prop where
  blk : w2.heap[h]? = some (.cells #[.int .u64 e', .bool false, chv, .map (some mb), .int .u64 old, .int .i64 lim] 71 (0, 0))
  b5 : w2.heap[w.heap.size]? = some (.cells D.toArray 65 (0, 0))
  b6 : w2.heap[w.heap.size + 1]? = some (.cells #[wl, ct] 67 (0, 0))
  grew : w.grownBy w2 (some h)

theorem S22.two {w w' : World} {h : Nat} {e' : Int} {chv : Value} {mb : Nat} {old lim : Int} {D : List Value} {wl ct : Value} (hs : w'.heap.size = w.heap.size)
    (hb : w'.heap[h]? = some (.cells #[.int .u64 e', .bool false, chv, .map (some mb), .int .u64 old, .int .i64 lim] 71 (0, 0))) (hg : w.grownBy w' (some h)) :
    S22 w ((w'.alloc (.cells D.toArray 65)).alloc (.cells #[wl, ct] 67)) h e' chv mb old lim D wl ct := by
  have hlt := lt_of_heap hb
  refine ⟨?_, ?_, ?_, ?_⟩
  · rw [Below.heap_alloc _ _ h (by simp; omega), Below.heap_alloc _ _ h hlt, hb]
  · rw [Below.heap_alloc _ _ _ (by simp; omega), ← hs]
    exact heap_alloc_new w' _
  · have := heap_alloc_new (w'.alloc (.cells D.toArray 65)) (.cells #[wl, ct] 67)
    rw [show w.heap.size + 1 = (w'.alloc (.cells D.toArray 65)).heap.size by simp [hs]]
    exact this
  · refine ⟨hg.os, hg.tape, hg.output, by simp; omega, fun k hk hne => ?_⟩
    rw [Below.heap_alloc _ _ k (by simp; omega), Below.heap_alloc _ _ k (by omega)]
    exact hg.block k hk hne

theorem S22.still {w : World} {h : Nat} {e : Int} {chv : Value} {mb : Nat} {old lim : Int} {D : List Value} {wl ct : Value}
    (hh : w.heap[h]? = some (.cells #[.int .u64 e, .bool false, chv, .map (some mb), .int .u64 old, .int .i64 lim] 71 (0, 0))) :
    S22 w ((w.alloc (.cells D.toArray 65)).alloc (.cells #[wl, ct] 67)) h (bump false e) chv mb old lim D wl ct :=
  S22.two rfl hh ⟨rfl, rfl, rfl, Nat.le_refl _, fun _ _ _ => rfl⟩

theorem S22.turned {w : World} {h : Nat} {e : Int} {chv : Value} {mb : Nat} {old lim : Int} {D : List Value} {wl ct : Value}
    (hh : w.heap[h]? = some (.cells #[.int .u64 e, .bool true, chv, .map (some mb), .int .u64 old, .int .i64 lim] 71 (0, 0))) :
    S22 w ((((w.setCell ⟨h, 0, none⟩ (.int .u64 (IntKind.u64.wrap (e + 1)))).setCell ⟨h, 1, none⟩ (.bool false)).alloc (.cells D.toArray 65)).alloc (.cells #[wl, ct] 67)) h (bump true e) chv mb old lim D wl ct := by
  have h1 := heap_setCell_same w h 0 _ 71 (.int .u64 (IntKind.u64.wrap (e + 1))) hh
  have h2 := heap_setCell_same _ h 1 _ 71 (.bool false) h1
  refine S22.two (by simp [World.setCell]) (by rw [h2]; rfl) ⟨rfl, rfl, rfl, by simp [World.setCell], fun k _ hne => ?_⟩
  rw [heap_setCell_other _ _ k _ (by simpa using hne), heap_setCell_other _ _ k _ (by simpa using hne)]

theorem grown_drewN {a w : World} {r : Option Nat} (h : a.grownBy w r) (n : Nat) : a.grownBy (w.drewN n) r := ⟨h.os, h.tape, h.output, h.size, h.block⟩
theorem S22.drewN {w w2 : World} {h : Nat} {e' : Int} {chv : Value} {mb : Nat} {old lim : Int} {D : List Value} {wl ct : Value} (hs : S22 w w2 h e' chv mb old lim D wl ct) (n : Nat) : S22 w (w2.drewN n) h e' chv mb old lim D wl ct := ⟨hs.blk, hs.b5, hs.b6, grown_drewN hs.grew n⟩

theorem look69 {w : World} {mb ms : Nat} {M : DataW Unit} {D : List Value} (hm : w.ownsMap Try.prog 65 (plainElem Try.prog 28) mb ms M) (hD : Dev D) :
    ∃ c : Int, (∀ n, (Instr.lookup 69 (.map (some mb)) (.agg D.toArray) true).run Try.prog (w.drewN n) = .ok (.tuple #[.int .u64 c, .bool (Maps.has M (kl D))]) (w.drewN n)) ∧
      M.atKey (kl D) (.lit (.int .u64 0)) = .lit (.int .u64 c) ∧ (Lit.int .u64 c).wf = true := by
  have key : ∀ n, ∃ c : Int, (Instr.lookup 69 (.map (some mb)) (.agg D.toArray) true).run Try.prog (w.drewN n) = .ok (.tuple #[.int .u64 c, .bool (Maps.has M (kl D))]) (w.drewN n) ∧
      M.atKey (kl D) (.lit (.int .u64 0)) = .lit (.int .u64 c) ∧ (Lit.int .u64 c).wf = true := fun n => by
    have hm' : (w.drewN n).ownsMap Try.prog 65 (plainElem Try.prog 28) mb ms M := hm
    obtain ⟨v, ps, hrun, hv⟩ := hm'.look_ok law65 (t := 69) (e := 28) Try.underlying69 (zero28 _) (plainElem_int Try.underlying28 (by decide)) hD.hkey
    obtain ⟨c, rfl, hc, hwc⟩ := plainElem_int_inv Try.underlying28 hv
    simp only [Prod.mk.injEq] at hc
    exact ⟨c, hrun, hc.1, hwc⟩
  obtain ⟨c, _, h2, h3⟩ := key 0
  refine ⟨c, fun n => ?_, h2, h3⟩
  obtain ⟨c', h1', h2', _⟩ := key n
  rw [h2] at h2'
  cases h2'
  exact h1'

set_option maxRecDepth 100000 in
set_option maxHeartbeats 1000000 in
theorem note22_old (h : Nat) (e : Int) (mk : Bool) (chv : Value) (mb : Nat) (old lim : Int) (D : List Value) (wl ct : Value) (hd : Bool) (w : World) (ms : Nat) (M : DataW Unit)
    (hh : w.heap[h]? = some (.cells #[.int .u64 e, .bool mk, chv, .map (some mb), .int .u64 old, .int .i64 lim] 71 (0, 0)))
    (hm : w.ownsMap Try.prog 65 (plainElem Try.prog 28) mb ms M) (hD : Dev D) (hhas : Maps.has M (kl D) = true) (hat : M.atKey (kl D) (.lit (.int .u64 0)) = .lit (.int .u64 (bump mk e))) :
    Calls Try.prog 22 #[.pointer (some ⟨h, 0, none⟩), .agg D.toArray, .agg #[wl, ct], .bool hd] w fun ex w' => ex = .returned (.tuple #[]) ∧
      w'.heap[h]? = some (.cells #[.int .u64 (bump mk e), .bool false, chv, .map (some mb), .int .u64 old, .int .i64 lim] 71 (0, 0)) ∧ w.grownBy w' (some h) := by
  have hnil := nilmap
  have hlt : h < w.heap.size := lt_of_heap hh
  have hc0 := hcell hh 0 rfl
  have hc1 := hcell hh 1 rfl
  have hc3 := hcell hh 3 rfl
  simp only [List.getElem_toArray, List.getElem_cons_zero, List.getElem_cons_succ] at hc0 hc1 hc3
  have hf0 : w.frozen? ⟨h, 0, none⟩ = false := by simp [World.frozen?, hh]
  have hf1 : w.frozen? ⟨h, 1, none⟩ = false := by simp [World.frozen?, hh]
  have hhm : mb ≠ h := fun e => by
    obtain ⟨es, clock, hb, _⟩ := hm
    rw [e, hh] at hb
    cases hb
  have HM := hide hm
  have HH := hide hh
  have HA := hide hat
  clear hm hh hat
  generalize hbm : bump mk e = e' at *
  go_enter Try.func22, Try.ntmps22
  cases mk
  case' false =>
    go_wp2_with fail
    have HS : Hid (S22 w ((w.alloc (.cells D.toArray 65)).alloc (.cells #[wl, ct] 67)) h e' chv mb old lim D wl ct) := hbm ▸ S22.still HH.out
    generalize (w.alloc (.cells D.toArray 65)).alloc (.cells #[wl, ct] 67) = w2 at HS ⊢
  case' true =>
    go_wp2_with fail
    have HS : Hid (S22 w ((((w.setCell ⟨h, 0, none⟩ (.int .u64 (IntKind.u64.wrap (e + 1)))).setCell ⟨h, 1, none⟩ (.bool false)).alloc (.cells D.toArray 65)).alloc (.cells #[wl, ct] 67)) h e' chv mb old lim D wl ct) := hbm ▸ S22.turned HH.out
    generalize (((w.setCell ⟨h, 0, none⟩ (.int .u64 (IntKind.u64.wrap (e + 1)))).setCell ⟨h, 1, none⟩ (.bool false)).alloc (.cells D.toArray 65)).alloc (.cells #[wl, ct] 67) = w2 at HS ⊢
  all_goals
    clear hc0 hc1 hc3 hf0 hf1 hbm HH
    have hm2 : w2.ownsMap Try.prog 65 (plainElem Try.prog 28) mb ms M := HM.out.kept HS.out.grew (by simpa using hhm)
    obtain ⟨c, hlk, hat, hwc⟩ := look69 hm2 hD
    rw [HA.out] at hat
    simp only [DataW.lit.injEq, Lit.int.injEq, true_and] at hat
    subst hat
    rw [hhas] at hlk
    have hc0 := hcell HS.out.blk 0 rfl
    have hc3 := hcell HS.out.blk 3 rfl
    simp only [List.getElem_toArray, List.getElem_cons_zero, List.getElem_cons_succ] at hc0 hc3
    have h65 : ∀ n, (Instr.loadAt 65 (.pointer (some ⟨w.heap.size, 0, none⟩))).run Try.prog (w2.drewN n) = .ok (.agg D.toArray) (w2.drewN n) := fun n => load65 (w := w2.drewN n) HS.out.b5 hD.1
    clear hm2 HM HA
    refine wp_region_quiet_lit (by kernel_rfl) (by kernel_rfl) ?_
    iterate 4 (go_big_quiet_step (fail))
    refine wpQuiet_by rfl fun K hK => quiet_load 65 (.tmp 5) rfl (.agg D.toArray) (by rintro _ ⟨n, rfl⟩; exact h65 n) (hK _ ?_)
    simp only [Act.put, List.setIfInBounds_toArray, List.set_cons_succ, List.set_cons_zero]
    clear hK K
    refine wpQuiet_by rfl fun K hK => quiet_lookup 69 (.tmp 35) (.tmp 36) true rfl _ (by rintro _ ⟨n, rfl⟩; exact hlk n) (hK _ ?_)
    simp only [Act.put, List.setIfInBounds_toArray, List.set_cons_succ, List.set_cons_zero]
    clear hK K
    repeat (go_big_quiet_step (fail))
    refine wpQuiet_nil ?_
    intro _ hw'
    obtain ⟨nq, rfl⟩ := hw'
    go_wp2
    refine bodyPost_ret (results_none rfl _ _ _) rfl ?_
    exact ⟨rfl, HS.out.blk, grown_drewN HS.out.grew nq⟩

/-- What a note leaves: the history's struct, its row, its map; every other old block is as it was. -/
structure Noted (B h : Nat) (w w' : World) (e' : Int) (mb : Nat) (lim : Int) (row : Option Nat) (ms : Nat) (M : DataW Unit) (old' : Int) (es' : List Ent) : Prop where
  main : ∃ chv', w'.heap[h]? = some (.cells #[.int .u64 e', .bool false, chv', .map (some mb), .int .u64 old', .int .i64 lim] 71 (0, 0)) ∧ w'.ownsRow B 73 20 chv' es'.length (flat es')
  map : w'.ownsMap Try.prog 65 (plainElem Try.prog 28) mb ms M
  os : w'.os = w.os
  tape : w'.tape = w.tape
  output : w'.output = w.output
  size : w.heap.size ≤ w'.heap.size
  block : ∀ k, k < w.heap.size → k ≠ h → k ≠ mb → some k ≠ row → w'.heap[k]? = w.heap[k]?

instance : Inhabited Ent := ⟨⟨0, [], 0, 0, false⟩⟩
def gone (lim : Int) (es : List Ent) : Nat := es.length - (lim / 2).toNat
def cutOld (lim old : Int) (es : List Ent) : Int := if lim < es.length then (es.getD (gone lim es - 1) default).e else old
def cutEnts (lim : Int) (es : List Ent) : List Ent := if lim < es.length then es.drop (gone lim es) else es

/-- The zero change. -/
def z73 : Value := .agg #[.int .u64 0, .int .u8 0, .int .u8 0, .int .u8 0, .int .u8 0, .int .u8 0, .int .u8 0, .int .u8 0, .int .u8 0, .int .u8 0, .int .u8 0, .int .u8 0, .int .u8 0, .int .u8 0, .int .u8 0, .int .u8 0, .int .u8 0, .int .i64 0, .int .u32 0, .bool false]
theorem info73 : (Try.prog.info? 73).map (fun i => (i.zero, i.size, i.bytes)) = some (some z73, 20, 48) := by kernel_rfl
theorem fill73 (x : Ent) (h : Dev x.D) : Instr.fill (fun i => some (i * 20, 20)) ((Array.range (1 * 20)).map (z73.cells[· % z73.cells.size]!)) [(0, .agg x.cells.toArray)] = some x.cells.toArray := by
  obtain ⟨e, D, wl, ct, hd⟩ := x
  have hl : D.length = 16 := h.1
  obtain ⟨a0, a1, a2, a3, a4, a5, a6, a7, a8, a9, a10, a11, a12, a13, a14, a15, rfl⟩ := list16 hl
  clear h hl
  show Instr.fill (fun i => some (i * 20, 20)) ((Array.range (1 * 20)).map (z73.cells[· % z73.cells.size]!)) [(0, .agg #[.int .u64 e, a0, a1, a2, a3, a4, a5, a6, a7, a8, a9, a10, a11, a12, a13, a14, a15, .int .i64 wl, .int .u32 ct, .bool hd])] = some #[.int .u64 e, a0, a1, a2, a3, a4, a5, a6, a7, a8, a9, a10, a11, a12, a13, a14, a15, .int .i64 wl, .int .u32 ct, .bool hd]
  kernel_rfl
theorem load67 {w : World} {b : Nat} {wl ct : Value} {t : TypeId} {fr : Nat × Nat} (h : w.heap[b]? = some (.cells #[wl, ct] t fr)) :
    (Instr.loadAt 67 (.pointer (some ⟨b, 0, none⟩))).run Try.prog w = .ok (.agg #[wl, ct]) w :=
  run_loadAt_mid w b 0 67 [wl, ct] _ (rangeAt_block h) Try.underlying67 rfl size67

/-- What stands behind the map's update. -/
structure S22b (B : Nat) (w w4 : World) (h : Nat) (e' : Int) (chv : Value) (mb : Nat) (old lim : Int) (D : List Value) (wl ct : Value) (n : Nat) (fl : List Value) (ms : Nat) (M : DataW Unit) : Prop where
  blk : w4.heap[h]? = some (.cells #[.int .u64 e', .bool false, chv, .map (some mb), .int .u64 old, .int .i64 lim] 71 (0, 0))
  b5 : w4.heap[w.heap.size]? = some (.cells D.toArray 65 (0, 0))
  b6 : w4.heap[w.heap.size + 1]? = some (.cells #[wl, ct] 67 (0, 0))
  row : w4.ownsRow B 73 20 chv n fl
  map : w4.ownsMap Try.prog 65 (plainElem Try.prog 28) mb ms M
  os : w4.os = w.os
  tape : w4.tape = w.tape
  output : w4.output = w.output
  size : w.heap.size ≤ w4.heap.size
  block : ∀ k, k < w.heap.size → k ≠ h → k ≠ mb → w4.heap[k]? = w.heap[k]?

theorem map_cells_ne {w : World} {mb n k : Nat} {M : DataW Unit} (hm : w.ownsMap Try.prog 65 (plainElem Try.prog 28) mb n M) {c : Array Value} {t : TypeId} {fr : Nat × Nat} (h : w.heap[k]? = some (.cells c t fr)) : k ≠ mb := fun e => by
  obtain ⟨es, clock, hb, _⟩ := hm
  rw [← e, h] at hb
  cases hb
theorem row_block {w : World} {B : Nat} {e : TypeId} {s : Nat} {v : Value} {n : Nat} {xs : List Value} (h : w.ownsRow B e s v n xs) {k : Nat} (hk : v.ownBlock = some k) : ∃ c, w.heap[k]? = some (.cells c e (0, 0)) := by
  rcases h.2 with ⟨rfl, _⟩ | ⟨g, cap, cur, rfl, _, hg, _⟩
  · cases hk
  · simp only [Value.ownBlock, Option.some.injEq] at hk
    exact ⟨cur, hk ▸ hg⟩

theorem S22.next {B : Nat} {w w3 w4 : World} {h : Nat} {e' : Int} {chv : Value} {mb : Nat} {old lim : Int} {D : List Value} {wl ct : Value} {n : Nat} {fl : List Value} {ms ms' : Nat} {M M' : DataW Unit}
    (hs : S22 w w3 h e' chv mb old lim D wl ct) (hlt : h < w.heap.size) (hm0 : w.ownsMap Try.prog 65 (plainElem Try.prog 28) mb ms' M') (hrow : w.ownsRow B 73 20 chv n fl)
    (hm : w4.ownsMap Try.prog 65 (plainElem Try.prog 28) mb ms M) (hg : (w3.drewN 1).grownBy w4 (some mb)) (hh : ∃ c, w.heap[h]? = some (.cells c 71 (0, 0))) : S22b B w w4 h e' chv mb old lim D wl ct n fl ms M := by
  have hs1 := hs.grew.size
  have hmb : mb < w.heap.size := hm0.lt
  have hb : ∀ k, k < w3.heap.size → k ≠ mb → w4.heap[k]? = w3.heap[k]? := fun k hk hne => hg.block k hk (by simpa using hne)
  obtain ⟨c0, hc0⟩ := hh
  have hhm := map_cells_ne hm0 hc0
  have hbig := lt_of_heap hs.b6
  refine ⟨(hb h (by omega) hhm).trans hs.blk, (hb _ (by omega) (by omega)).trans hs.b5, (hb _ hbig (by omega)).trans hs.b6, ?_, hm, hg.os.trans hs.grew.os, hg.tape.trans hs.grew.tape, hg.output.trans hs.grew.output, Nat.le_trans hs1 hg.size, fun k hk h1 h2 => (hb k (by omega) h2).trans (hs.grew.block k hk (by simpa using h1))⟩
  have hr1 : w3.ownsRow B 73 20 chv n fl := by
    refine hrow.kept hs.grew ?_
    cases hv : chv.ownBlock with
    | none => exact .inl rfl
    | some k =>
      obtain ⟨c, hc⟩ := row_block hrow hv
      refine .inr ?_
      rintro e
      simp only [Option.some.injEq] at e
      subst e
      rw [hc0] at hc
      cases hc
  have hr2 : (w3.drewN 1).ownsRow B 73 20 chv n fl := hr1
  refine hr2.kept hg ?_
  cases hv : chv.ownBlock with
  | none => exact .inl rfl
  | some k =>
    obtain ⟨c, hc⟩ := row_block hrow hv
    refine .inr fun e => ?_
    simp only [Option.some.injEq] at e
    exact map_cells_ne hm0 hc e

/-- The worlds in which three blocks are as they were. -/
def Keep3 (w4 : World) (a b c : Nat) : Type := { w' : World // w'.heap[a]? = w4.heap[a]? ∧ w'.heap[b]? = w4.heap[b]? ∧ w'.heap[c]? = w4.heap[c]? }

instance (w4 : World) (a b c : Nat) : Nonempty (Keep3 w4 a b c) := ⟨⟨w4, rfl, rfl, rfl⟩⟩

/-- What stands behind the first append. -/
structure S22c (B : Nat) (w w7 : World) (h : Nat) (e' : Int) (g cap : Nat) (mb : Nat) (old lim : Int) (es : List Ent) (ms : Nat) (M : DataW Unit) (r0 : Option Nat) : Prop where
  blk : w7.heap[h]? = some (.cells #[.int .u64 e', .bool false, .slice (some ⟨g, 0, none⟩) es.length cap, .map (some mb), .int .u64 old, .int .i64 lim] 71 (0, 0))
  row : w7.ownsRow B 73 20 (.slice (some ⟨g, 0, none⟩) es.length cap) es.length (flat es)
  map : w7.ownsMap Try.prog 65 (plainElem Try.prog 28) mb ms M
  os : w7.os = w.os
  tape : w7.tape = w.tape
  output : w7.output = w.output
  size : w.heap.size ≤ w7.heap.size
  block : ∀ k, k < w.heap.size → k ≠ h → k ≠ mb → some k ≠ r0 → w7.heap[k]? = w.heap[k]?

theorem ownsMap_of_block {w w' : World} {mb ms : Nat} {M : DataW Unit} (h : w.ownsMap Try.prog 65 (plainElem Try.prog 28) mb ms M) (hb : w'.heap[mb]? = w.heap[mb]?) : w'.ownsMap Try.prog 65 (plainElem Try.prog 28) mb ms M := by
  obtain ⟨es, clock, h1, h2⟩ := h
  exact ⟨es, clock, hb.trans h1, h2⟩
theorem ownsRow_of_block {w w' : World} {B e s : Nat} {v : Value} {n : Nat} {xs : List Value} (h : w.ownsRow B e s v n xs) (hb : ∀ k, v.ownBlock = some k → w'.heap[k]? = w.heap[k]?) : w'.ownsRow B e s v n xs := by
  refine ⟨h.1, ?_⟩
  rcases h.2 with hn | ⟨g, cap, cur, rfl, h1, h2, h3⟩
  · exact .inl hn
  · exact .inr ⟨g, cap, cur, rfl, h1, (hb g rfl).trans h2, h3⟩
theorem row_ne {w : World} {B : Nat} {s : Nat} {v : Value} {n : Nat} {xs : List Value} (h : w.ownsRow B 73 s v n xs) {k : Nat} {c : Array Value} {t : TypeId} {fr : Nat × Nat} (hk : w.heap[k]? = some (.cells c t fr)) (ht : t ≠ 73) : some k ≠ v.ownBlock := fun e => by
  obtain ⟨c', hc'⟩ := row_block h e.symm
  rw [hk] at hc'
  cases hc'
  exact ht rfl
theorem map_row_ne {w : World} {B : Nat} {s : Nat} {v : Value} {n : Nat} {xs : List Value} (h : w.ownsRow B 73 s v n xs) {mb ms : Nat} {M : DataW Unit} (hm : w.ownsMap Try.prog 65 (plainElem Try.prog 28) mb ms M) : some mb ≠ v.ownBlock := fun e => by
  obtain ⟨c', hc'⟩ := row_block h e.symm
  exact map_cells_ne hm hc' rfl

theorem S22b.next {B : Nat} {w w4 w5 w6 : World} {h : Nat} {e' : Int} {chv : Value} {mb : Nat} {old lim : Int} {D : List Value} {wl ct : Value} {es : List Ent} {x : Ent} {ms : Nat} {M : DataW Unit} {g cap : Nat} {o : Obj}
    (hs : S22b B w w4 h e' chv mb old lim D wl ct es.length (flat es) ms M) (hw5 : w5 = (w4.drewN 1).alloc o) (hlt : h < w.heap.size) (hmlt : mb < w.heap.size)
    (hrow : w6.ownsRow B 73 20 (.slice (some ⟨g, 0, none⟩) (es.length + 1) cap) (es.length + 1) (flat es ++ x.cells)) (hg : w5.grownBy w6 chv.ownBlock) :
    S22c B w (w6.setCell ⟨h, 2, none⟩ (.slice (some ⟨g, 0, none⟩) (es.length + 1) cap)) h e' g cap mb old lim (es ++ [x]) ms M chv.ownBlock := by
  have hsz := hs.size
  have hb5 : ∀ k, k < w4.heap.size → w5.heap[k]? = w4.heap[k]? := fun k hk => by rw [hw5]; exact Below.heap_alloc _ _ k hk
  have hs5 : w5.heap.size = w4.heap.size + 1 := by rw [hw5]; simp
  have hb6 : ∀ k, k < w4.heap.size → some k ≠ chv.ownBlock → w6.heap[k]? = w4.heap[k]? := fun k hk hne => (hg.block k (by omega) hne).trans (hb5 k hk)
  have h6 : w6.heap[h]? = _ := (hb6 h (by omega) (row_ne hs.row hs.blk (by decide))).trans hs.blk
  have h7 := heap_setCell_same w6 h 2 _ 71 (.slice (some ⟨g, 0, none⟩) (es.length + 1) cap) h6
  have hhm : h ≠ mb := map_cells_ne hs.map hs.blk
  have hgh : g ≠ h := fun e => by
    have := row_ne hrow h6 (by decide)
    rw [← e] at this
    exact this rfl
  have hl : (es ++ [x]).length = es.length + 1 := by simp
  refine ⟨?_, ?_, ?_, ?_, ?_, ?_, ?_, fun k hk h1 h2 h3 => ?_⟩
  · rw [h7, hl]; rfl
  · rw [hl, flat_append, show flat [x] = x.cells by simp [flat]]
    exact ownsRow_of_block hrow fun k hk => by
      simp only [Value.ownBlock, Option.some.injEq] at hk
      subst hk
      exact heap_setCell_other _ _ _ _ hgh
  · exact ownsMap_of_block hs.map ((heap_setCell_other _ _ _ _ hhm.symm).trans (hb6 mb (by omega) (map_row_ne hs.row hs.map)))
  · exact hg.os.trans (by rw [hw5]; exact hs.os)
  · exact hg.tape.trans (by rw [hw5]; exact hs.tape)
  · exact hg.output.trans (by rw [hw5]; exact hs.output)
  · have := hg.size
    simp only [World.setCell, Array.size_modify]
    omega
  · rw [heap_setCell_other _ _ k _ h1, hb6 k (by omega) h3]
    exact hs.block k hk h1 h2

theorem S22c.drewN {B : Nat} {w w7 : World} {h : Nat} {e' : Int} {g cap : Nat} {mb : Nat} {old lim : Int} {es : List Ent} {ms : Nat} {M : DataW Unit} {r0 : Option Nat} (s : S22c B w w7 h e' g cap mb old lim es ms M r0) (n : Nat) : S22c B w (w7.drewN n) h e' g cap mb old lim es ms M r0 :=
  ⟨s.blk, s.row, s.map, s.os, s.tape, s.output, s.size, s.block⟩

theorem S22c.done {B : Nat} {w w9 w11 : World} {h : Nat} {e' : Int} {g cap : Nat} {mb : Nat} {old lim o' : Int} {es es' : List Ent} {ms : Nat} {M : DataW Unit} {r0 : Option Nat} {v : Value} (s : S22c B w w9 h e' g cap mb old lim es ms M r0)
    (hlt : h < w.heap.size) (hmlt : mb < w.heap.size) (q1 : w11.ownsRow B 73 20 v es'.length (flat es')) (q2 : (w9.setCell ⟨h, 4, none⟩ (.int .u64 o')).grownBy w11 none) :
    Noted B h w (w11.setCell ⟨h, 2, none⟩ v) e' mb lim r0 ms M o' es' := by
  have hsz := s.size
  have hb : ∀ k, k < w9.heap.size → k ≠ h → w11.heap[k]? = w9.heap[k]? := fun k hk hne =>
    (q2.block k (by simpa [World.setCell] using hk) (by simp)).trans (heap_setCell_other _ _ _ _ hne)
  have h10 := heap_setCell_same w9 h 4 _ 71 (.int .u64 o') s.blk
  have h11 := (q2.block h (by simp only [World.setCell, Array.size_modify]; omega) (by simp)).trans h10
  have h12 := heap_setCell_same w11 h 2 _ 71 v h11
  have hhm : h ≠ mb := map_cells_ne s.map s.blk
  have hs2 := q2.size
  simp only [World.setCell, Array.size_modify] at hs2
  refine ⟨⟨v, by rw [h12]; rfl, ownsRow_of_block q1 fun k hk => heap_setCell_other _ _ _ _ fun e => row_ne q1 h11 (by decide) (by rw [hk, show k = h from e])⟩, ?_, q2.os.trans s.os, q2.tape.trans s.tape, q2.output.trans s.output, ?_, fun k hk h1 h2 h3 => ?_⟩
  · exact ownsMap_of_block s.map ((heap_setCell_other _ _ _ _ hhm.symm).trans (hb mb (by omega) hhm.symm))
  · simp only [World.setCell, Array.size_modify]; omega
  · rw [heap_setCell_other _ _ k _ h1, hb k (by omega) h1]
    exact s.block k hk h1 h2 h3

set_option maxRecDepth 100000 in
set_option maxHeartbeats 2000000 in
theorem note22_new (B h : Nat) (e : Int) (mk : Bool) (chv : Value) (mb : Nat) (old lim : Int) (D : List Value) (wl ct : Int) (hd : Bool) (w : World) (ms : Nat) (M : DataW Unit) (es : List Ent)
    (hh : w.heap[h]? = some (.cells #[.int .u64 e, .bool mk, chv, .map (some mb), .int .u64 old, .int .i64 lim] 71 (0, 0)))
    (hm : w.ownsMap Try.prog 65 (plainElem Try.prog 28) mb ms M) (hms : ms < maxLen) (hrow : w.ownsRow B 73 20 chv es.length (flat es)) (hB : B ≤ w.heap.size) (hes : es.length ≤ 1000000) (hg : Goods es) (hD : Dev D)
    (hl0 : 0 ≤ lim) (hl1 : lim ≤ 9223372036854775807) (hwe : (Lit.int .u64 (bump mk e)).wf = true)
    (hno : ¬ (Maps.has M (kl D) = true ∧ M.atKey (kl D) (.lit (.int .u64 0)) = .lit (.int .u64 (bump mk e)))) :
    Calls Try.prog 22 #[.pointer (some ⟨h, 0, none⟩), .agg D.toArray, .agg #[.int .i64 wl, .int .u32 ct], .bool hd] w fun ex w' => ex = .returned (.tuple #[]) ∧
      Noted B h w w' (bump mk e) mb lim chv.ownBlock (ms + 1) (M.put (kl D) (.lit (.int .u64 (bump mk e)))) (cutOld lim old (es ++ [⟨bump mk e, D, wl, ct, hd⟩])) (cutEnts lim (es ++ [⟨bump mk e, D, wl, ct, hd⟩])) := by
  have hnil := nilmap
  have hlt : h < w.heap.size := lt_of_heap hh
  have hc0 := hcell hh 0 rfl
  have hc1 := hcell hh 1 rfl
  have hc3 := hcell hh 3 rfl
  simp only [List.getElem_toArray, List.getElem_cons_zero, List.getElem_cons_succ] at hc0 hc1 hc3
  have hf0 : w.frozen? ⟨h, 0, none⟩ = false := by simp [World.frozen?, hh]
  have hf1 : w.frozen? ⟨h, 1, none⟩ = false := by simp [World.frozen?, hh]
  have hhm : mb ≠ h := fun e => by
    obtain ⟨es, clock, hb, _⟩ := hm
    rw [e, hh] at hb
    cases hb
  have HM := hide hm
  have HH := hide hh
  have HN := hide hno
  have HW := hide hwe
  have HR := hide hrow
  have HG := hide hg
  have HH0 : Hid (∃ c, w.heap[h]? = some (.cells c 71 (0, 0))) := ⟨_, hh⟩
  clear hm hh hno hwe hrow hg
  generalize hbm : bump mk e = e' at *
  go_enter Try.func22, Try.ntmps22
  cases mk
  case' false =>
    go_wp2_with fail
    have HS : Hid (S22 w ((w.alloc (.cells D.toArray 65)).alloc (.cells #[.int .i64 wl, .int .u32 ct] 67)) h e' chv mb old lim D (.int .i64 wl) (.int .u32 ct)) := hbm ▸ S22.still HH.out
    generalize (w.alloc (.cells D.toArray 65)).alloc (.cells #[.int .i64 wl, .int .u32 ct] 67) = w2 at HS ⊢
  case' true =>
    go_wp2_with fail
    have HS : Hid (S22 w ((((w.setCell ⟨h, 0, none⟩ (.int .u64 (IntKind.u64.wrap (e + 1)))).setCell ⟨h, 1, none⟩ (.bool false)).alloc (.cells D.toArray 65)).alloc (.cells #[.int .i64 wl, .int .u32 ct] 67)) h e' chv mb old lim D (.int .i64 wl) (.int .u32 ct)) := hbm ▸ S22.turned HH.out
    generalize (((w.setCell ⟨h, 0, none⟩ (.int .u64 (IntKind.u64.wrap (e + 1)))).setCell ⟨h, 1, none⟩ (.bool false)).alloc (.cells D.toArray 65)).alloc (.cells #[.int .i64 wl, .int .u32 ct] 67) = w2 at HS ⊢
  all_goals
    clear hc0 hc1 hc3 hf0 hf1 hbm HH
    have hm2 : w2.ownsMap Try.prog 65 (plainElem Try.prog 28) mb ms M := HM.out.kept HS.out.grew (by simpa using hhm)
    obtain ⟨c, hlk, hat, hwc⟩ := look69 hm2 hD
    have HM2 := hide hm2
    have hce : Maps.has M (kl D) = true → (c == e') = false := fun h => by
      simp only [beq_eq_false_iff_ne]
      rintro rfl
      exact HN.out ⟨h, hat⟩
    have hc0 := hcell HS.out.blk 0 rfl
    have hc3 := hcell HS.out.blk 3 rfl
    simp only [List.getElem_toArray, List.getElem_cons_zero, List.getElem_cons_succ] at hc0 hc3
    have h65 : ∀ n, (Instr.loadAt 65 (.pointer (some ⟨w.heap.size, 0, none⟩))).run Try.prog (w2.drewN n) = .ok (.agg D.toArray) (w2.drewN n) := fun n => load65 (w := w2.drewN n) HS.out.b5 hD.1
    clear hm2 HN hat hwc
    refine wp_region_quiet_lit (by kernel_rfl) (by kernel_rfl) ?_
    iterate 4 (go_big_quiet_step (fail))
    refine wpQuiet_by rfl fun K hK => quiet_load 65 (.tmp 5) rfl (.agg D.toArray) (by rintro _ ⟨n, rfl⟩; exact h65 n) (hK _ ?_)
    simp only [Act.put, List.setIfInBounds_toArray, List.set_cons_succ, List.set_cons_zero]
    clear hK K
    refine wpQuiet_by rfl fun K hK => quiet_lookup 69 (.tmp 35) (.tmp 36) true rfl _ (by rintro _ ⟨n, rfl⟩; exact hlk n) (hK _ ?_)
    simp only [Act.put, List.setIfInBounds_toArray, List.set_cons_succ, List.set_cons_zero]
    clear hK K
    repeat (go_big_quiet_step (fail))
    refine wpQuiet_nil ?_
    intro _ hw'
    obtain ⟨nq, rfl⟩ := hw'
    have HM3 : Hid ((w2.drewN nq).ownsMap Try.prog 65 (plainElem Try.prog 28) mb ms M) := HM2.out
    have HS3 : Hid (S22 w (w2.drewN nq) h e' chv mb old lim D (.int .i64 wl) (.int .u32 ct)) := HS.out.drewN nq
    generalize w2.drewN nq = w3 at HM3 HS3 ⊢
    clear HM2 HS h65 hlk hc0 hc3
    have hc0 := hcell HS3.out.blk 0 rfl
    have hc3 := hcell HS3.out.blk 3 rfl
    simp only [List.getElem_toArray, List.getElem_cons_zero, List.getElem_cons_succ] at hc0 hc3
    have h65 : ∀ n, (Instr.loadAt 65 (.pointer (some ⟨w.heap.size, 0, none⟩))).run Try.prog (w3.drewN n) = .ok (.agg D.toArray) (w3.drewN n) := fun n => load65 (w := w3.drewN n) HS3.out.b5 hD.1
    generalize hhas : Maps.has M (kl D) = hs at *
    cases hs
  all_goals
    first | (have hce2 := hce rfl) | skip
    clear hce
    go_wp2_with fail
    refine wp_region_mix (fun w' => ∃ n, w' = w3.drewN n) 9 (by kernel_rfl) (by kernel_rfl) rfl (fun hR => ?_)
    refine wpMix_step hR 0 rfl (by kernel_rfl) rfl (fun K hK => ?_)
    go_big_quiet_op
    refine hK _ ?_
    clear hK K
    refine wpMix_step hR 1 rfl (by kernel_rfl) rfl (fun K hK => ?_)
    go_big_quiet_op
    refine hK _ ?_
    clear hK K
    refine wpMix_step hR 2 rfl (by kernel_rfl) rfl (fun K hK => ?_)
    go_big_quiet_op
    refine hK _ ?_
    clear hK K
    refine wpMix_step hR 3 rfl (by kernel_rfl) rfl (fun K hK => ?_)
    go_big_quiet_op
    refine hK _ ?_
    clear hK K
    refine wpMix_step hR 4 rfl (by kernel_rfl) rfl (fun K hK => quiet_load 65 (.tmp 5) rfl (.agg D.toArray) (by rintro _ ⟨n, rfl⟩; exact h65 n) (hK _ ?_))
    simp only [Act.put, List.setIfInBounds_toArray, List.set_cons_succ, List.set_cons_zero]
    clear hK K
    refine wpMix_step hR 5 rfl (by kernel_rfl) rfl (fun K hK => ?_)
    go_big_quiet_op
    refine hK _ ?_
    clear hK K
    refine wpMix_step hR 6 rfl (by kernel_rfl) rfl (fun K hK => ?_)
    go_big_quiet_op
    refine hK _ ?_
    clear hK K
    refine wpMix_step hR 7 rfl (by kernel_rfl) rfl (fun K hK => ?_)
    go_big_quiet_op
    refine hK _ ?_
    clear hK K
    refine wpMix_step hR 8 rfl (by kernel_rfl) rfl (fun K hK => ?_)
    go_big_quiet_op
    refine hK _ ?_
    clear hK K
    refine ⟨⟨1, rfl⟩, by kernel_rfl, ?_⟩
    have HM3' : Hid ((w3.drewN 1).ownsMap Try.prog 65 (plainElem Try.prog 28) mb ms M) := HM3.out
    refine wpList_mapUpdate_own _ rfl _ _ _ 69 rfl 65 28 law65 Try.underlying69 _ mb ms M rfl HM3'.out hms _ _ _ rfl rfl hD.hkey _ [] (plainElem_int Try.underlying28 HW.out) ?_
    intro w4 hm4 hg4
    have HB4 : Hid (S22b B w w4 h e' chv mb old lim D (.int .i64 wl) (.int .u32 ct) es.length (flat es) (ms + 1) (M.put (kl D) (.lit (.int .u64 e')))) := HS3.out.next hlt HM.out HR.out hm4 hg4 HH0.out
    clear hm4 hg4 HM3 HM3' HS3 hc0 hc3 h65 hR
    simp only [Act.put]
    go_wp2_with fail
    have hx0 : ∀ x : Keep3 w4 h w.heap.size (w.heap.size + 1), x.1.cell? ⟨h, 0, none⟩ = some (.int .u64 e') := fun x => hcell (x.2.1.trans HB4.out.blk) 0 rfl
    have hx2 : ∀ x : Keep3 w4 h w.heap.size (w.heap.size + 1), x.1.cell? ⟨h, 2, none⟩ = some chv := fun x => hcell (x.2.1.trans HB4.out.blk) 2 rfl
    have h65 : ∀ x : Keep3 w4 h w.heap.size (w.heap.size + 1), (Instr.loadAt 65 (.pointer (some ⟨w.heap.size, 0, none⟩))).run Try.prog x.1 = .ok (.agg D.toArray) x.1 := fun x => load65 (x.2.2.1.trans HB4.out.b5) hD.1
    have h67 : ∀ x : Keep3 w4 h w.heap.size (w.heap.size + 1), (Instr.loadAt 67 (.pointer (some ⟨w.heap.size + 1, 0, none⟩))).run Try.prog x.1 = .ok (.agg #[.int .i64 wl, .int .u32 ct]) x.1 := fun x => load67 (x.2.2.2.trans HB4.out.b6)
    refine wp_region_mix (fun w' => ∃ x : Keep3 w4 h w.heap.size (w.heap.size + 1), w' = x.1) 17 (by kernel_rfl) (by kernel_rfl) rfl (fun hR => ?_)
    refine wpMix_step hR 0 rfl (by kernel_rfl) rfl (fun K hK => ?_)
    go_big_quiet_op
    refine hK _ ?_
    clear hK K
    refine wpMix_step hR 1 rfl (by kernel_rfl) rfl (fun K hK => ?_)
    go_big_quiet_op
    refine hK _ ?_
    clear hK K
    refine wpMix_step hR 2 rfl (by kernel_rfl) rfl (fun K hK => ?_)
    go_big_quiet_op
    refine hK _ ?_
    clear hK K
    refine wpMix_step hR 3 rfl (by kernel_rfl) rfl (fun K hK => ?_)
    go_big_quiet_op
    refine hK _ ?_
    clear hK K
    refine wpMix_step hR 4 rfl (by kernel_rfl) rfl (fun K hK => ?_)
    go_big_quiet_op
    refine hK _ ?_
    clear hK K
    refine wpMix_step hR 5 rfl (by kernel_rfl) rfl (fun K hK => ?_)
    go_big_quiet_op
    refine hK _ ?_
    clear hK K
    refine wpMix_step hR 6 rfl (by kernel_rfl) rfl (fun K hK => ?_)
    go_big_quiet_op
    refine hK _ ?_
    clear hK K
    refine wpMix_step hR 7 rfl (by kernel_rfl) rfl (fun K hK => ?_)
    go_big_quiet_op
    refine hK _ ?_
    clear hK K
    refine wpMix_step hR 8 rfl (by kernel_rfl) rfl (fun K hK => ?_)
    go_big_quiet_op
    refine hK _ ?_
    clear hK K
    refine wpMix_step hR 9 rfl (by kernel_rfl) rfl (fun K hK => quiet_load 65 (.tmp 5) rfl (.agg D.toArray) (by rintro _ ⟨x, rfl⟩; exact h65 x) (hK _ ?_))
    simp only [Act.put, List.setIfInBounds_toArray, List.set_cons_succ, List.set_cons_zero]
    clear hK K
    refine wpMix_step hR 10 rfl (by kernel_rfl) rfl (fun K hK => quiet_load 67 (.tmp 6) rfl (.agg #[.int .i64 wl, .int .u32 ct]) (by rintro _ ⟨x, rfl⟩; exact h67 x) (hK _ ?_))
    simp only [Act.put, List.setIfInBounds_toArray, List.set_cons_succ, List.set_cons_zero]
    clear hK K
    refine wpMix_step hR 11 rfl (by kernel_rfl) rfl (fun K hK => ?_)
    go_big_quiet_op
    refine hK _ ?_
    clear hK K
    refine wpMix_step hR 12 rfl (by kernel_rfl) rfl (fun K hK => quiet_build 73 _ rfl (Ent.cells ⟨e', D, wl, ct, hd⟩).toArray (built73 ⟨e', D, wl, ct, hd⟩ hD) (hK _ ?_))
    simp only [Act.put, List.setIfInBounds_toArray, List.set_cons_succ, List.set_cons_zero]
    clear hK K
    obtain ⟨i73, hi, hz0, hz1, hz2⟩ := info_parts info73
    refine wpMix_loud 13 rfl (by kernel_rfl) (by decide) ⟨⟨w4.drewN 1, rfl, rfl, rfl⟩, rfl⟩ ?_
    refine wpList_buildSlice' rfl 68 73 1 _ rfl (Ent.cells ⟨e', D, wl, ct, hd⟩).toArray i73 z73 Try.underlying68 hi hz0 (by rw [hz1]; decide) (by rw [hz1]; decide) (by rw [hz1]; exact fill73 ⟨e', D, wl, ct, hd⟩ hD) ?_
    refine ⟨rfl, ?_⟩
    simp only [Act.put, List.setIfInBounds_toArray, List.set_cons_succ, List.set_cons_zero]
    have hh4 : h < w4.heap.size := lt_of_heap HB4.out.blk
    have h54 : w.heap.size < w4.heap.size := lt_of_heap HB4.out.b5
    have h64 : w.heap.size + 1 < w4.heap.size := lt_of_heap HB4.out.b6
    have hmlt : mb < w.heap.size := HM.out.lt
    obtain ⟨w5, hw5⟩ : ∃ w5, w5 = (w4.drewN 1).alloc (.cells (Ent.cells ⟨e', D, wl, ct, hd⟩).toArray 73) := ⟨_, rfl⟩
    rw [← hw5]
    have hb5 : ∀ k, k < w4.heap.size → w5.heap[k]? = w4.heap[k]? := fun k hk => by rw [hw5]; exact Below.heap_alloc _ _ k hk
    have hn5 : w5.heap[w4.heap.size]? = some (.cells (Ent.cells ⟨e', D, wl, ct, hd⟩).toArray 73 (0, 0)) := by rw [hw5]; exact heap_alloc_new (w4.drewN 1) _
    have hr5 : w5.ownsRow B 73 20 chv es.length (flat es) := by rw [hw5]; exact World.ownsRow.alloc (w := w4.drewN 1) HB4.out.row _
    have hB5 : B ≤ w5.heap.size := by rw [hw5]; simp; omega
    refine wpMix_loud 14 rfl (by kernel_rfl) (by decide) ⟨⟨w5, hb5 _ hh4, hb5 _ h54, hb5 _ h64⟩, rfl⟩ ?_
    refine wpList_append_own_at (w := w5) rfl (.tmp 62) (.tmp 71) 68 rfl B 73 i73 z73 20 48 Try.underlying68 hi hz0 hz1 hz2 rfl (by decide) chv es.length (flat es) rfl hr5 ⟨w4.heap.size, 0, none⟩ 1 1 (Ent.cells ⟨e', D, wl, ct, hd⟩) rfl (Ent.length hD) (fun j u hu => by rw [Addr.add_mid]; exact rangeAt_block hn5 j u hu) (Ent.oneCell hD) (by unfold maxLen; omega) (by omega) hB5 ?_
    intro v6 w6 q1 q2 q3 q4
    refine ⟨rfl, ?_⟩
    simp only [Act.put, List.setIfInBounds_toArray, List.set_cons_succ, List.set_cons_zero]
    have hC6 : ∀ k, k < w4.heap.size → some k ≠ chv.ownBlock → w6.heap[k]? = w4.heap[k]? := fun k hk hne => (q2.block k (by rw [hw5]; simp; omega) hne).trans (hb5 k hk)
    have hrl : ∀ k, chv.ownBlock = some k → k < w.heap.size := fun k hk => (HR.out.lt k hk).2
    have hne5 : some w.heap.size ≠ chv.ownBlock := fun e => by have := hrl _ e.symm; omega
    have hne6 : some (w.heap.size + 1) ≠ chv.ownBlock := fun e => by have := hrl _ e.symm; omega
    have hneh : some h ≠ chv.ownBlock := row_ne HB4.out.row HB4.out.blk (by decide)
    rcases q1.2 with ⟨_, hbad⟩ | ⟨g, cap, cur, rfl, _⟩
    · omega
    refine wpMix_step hR 15 rfl (by kernel_rfl) rfl (fun K hK => ?_)
    go_big_quiet_op
    refine hK _ ?_
    clear hK K
    refine wpMix_step hR 16 rfl (by kernel_rfl) rfl (fun K hK => ?_)
    go_big_quiet_op
    refine hK _ ?_
    clear hK K
    refine ⟨⟨⟨w6, hC6 _ hh4 hneh, hC6 _ h54 hne5, hC6 _ h64 hne6⟩, rfl⟩, by kernel_rfl, ?_⟩
    have HC : Hid (S22c B w (w6.setCell ⟨h, 2, none⟩ (.slice (some ⟨g, 0, none⟩) (es.length + 1) cap)) h e' g cap mb old lim (es ++ [⟨e', D, wl, ct, hd⟩]) (ms + 1) (M.put (kl D) (.lit (.int .u64 e'))) chv.ownBlock) := HB4.out.next hw5 hlt hmlt q1 q2
    have h6 := (hC6 _ hh4 hneh).trans HB4.out.blk
    have hc2 := hcell h6 2 rfl
    have hf2 : w6.frozen? ⟨h, 2, none⟩ = false := by simp [World.frozen?, h6]
    simp only [List.getElem_toArray, List.getElem_cons_zero, List.getElem_cons_succ] at hc2
    clear hx0 hx2 h65 h67 q1 q2 q3 q4 hC6 hr5 hn5 hb5 hw5 hB5 HB4 h6 hR hne5 hne6 hneh hh4 h54 h64 hrl
    go_wp2_with fail
    generalize w6.setCell ⟨h, 2, none⟩ (.slice (some ⟨g, 0, none⟩) (es.length + 1) cap) = w7 at HC ⊢
    clear hc2 hf2
    have hl1' : (es ++ [(⟨e', D, wl, ct, hd⟩ : Ent)]).length = es.length + 1 := by simp
    have hc2 := hcell HC.out.blk 2 rfl
    have hc5 := hcell HC.out.blk 5 rfl
    simp only [List.getElem_toArray, List.getElem_cons_zero, List.getElem_cons_succ, hl1'] at hc2 hc5
    clear hl1'
    by_cases hgt : lim < (es.length : Int) + 1
    · have hd1 : decide (lim < (es.length : Int) + 1) = true := decide_eq_true hgt
      go_quiet (fail)
      go_wp2_with fail
      have HC8 : Hid (S22c B w (w7.drewN nq) h e' g cap mb old lim (es ++ [⟨e', D, wl, ct, hd⟩]) (ms + 1) (M.put (kl D) (.lit (.int .u64 e'))) chv.ownBlock) := HC.out.drewN nq
      have hc2' : (w7.drewN nq).cell? ⟨h, 2, none⟩ = _ := hc2
      have hc5' : (w7.drewN nq).cell? ⟨h, 5, none⟩ = _ := hc5
      generalize w7.drewN nq = w8 at HC8 hc2' hc5' ⊢
      clear hc2 hc5 HC
      go_quiet (fail)
      have HC9 : Hid (S22c B w (w8.drewN nq) h e' g cap mb old lim (es ++ [⟨e', D, wl, ct, hd⟩]) (ms + 1) (M.put (kl D) (.lit (.int .u64 e'))) chv.ownBlock) := HC8.out.drewN nq
      have hc2 : (w8.drewN nq).cell? ⟨h, 2, none⟩ = _ := hc2'
      have hc5 : (w8.drewN nq).cell? ⟨h, 5, none⟩ = _ := hc5'
      generalize w8.drewN nq = w9 at HC9 hc2 hc5 ⊢
      clear hc2' hc5' HC8
      obtain ⟨G, hG⟩ : ∃ G : Nat, (es.length : Int) + 1 - lim / 2 = (G : Int) + 1 := ⟨((es.length : Int) - lim / 2).toNat, by omega⟩
      have hGn : G < es.length + 1 := by omega
      rw [hG]
      obtain ⟨y, hy⟩ : ∃ y, (es ++ [(⟨e', D, wl, ct, hd⟩ : Ent)])[G]? = some y := ⟨_, List.getElem?_eq_getElem (by simp; omega)⟩
      have hgood : Goods (es ++ [(⟨e', D, wl, ct, hd⟩ : Ent)]) := HG.out.app hD
      have hcy : w9.cell? ⟨g, G * 20, none⟩ = some (.int .u64 y.e) := by
        have := HC9.out.row.cells (g := g) rfl (G * 20) (.int .u64 y.e) (by rw [← Nat.add_zero (G * 20), flat_at hgood hy (by omega)]; rfl)
        rw [Addr.add_lit, Nat.zero_add] at this
        exact this
      have hcy' : w9.cell? ⟨g, 20 * G, none⟩ = some (.int .u64 y.e) := by rw [Nat.mul_comm]; exact hcy
      have hf2 : w9.frozen? ⟨h, 2, none⟩ = false := by simp [World.frozen?, HC9.out.blk]
      have hf4 : w9.frozen? ⟨h, 4, none⟩ = false := by simp [World.frozen?, HC9.out.blk]
      have hc4 := hcell HC9.out.blk 4 rfl
      simp only [List.getElem_toArray, List.getElem_cons_zero, List.getElem_cons_succ] at hc4
      have hcap : es.length + 1 ≤ cap ∧ cap ≤ maxLen := by
        rcases HC9.out.row.2 with ⟨hb, _⟩ | ⟨g', cap', cur', e1, _, _, h1, h2, _⟩
        · cases hb
        · cases e1
          exact ⟨by simpa using h1, h2⟩
      unfold maxLen at hcap
      obtain ⟨hcap1, hcap2⟩ := hcap
      have hgone : gone lim (es ++ [(⟨e', D, wl, ct, hd⟩ : Ent)]) = G + 1 := by simp [gone]; omega
      have hgtl : lim < ((es ++ [(⟨e', D, wl, ct, hd⟩ : Ent)]).length : Int) := by simp; omega
      have hold : cutOld lim old (es ++ [(⟨e', D, wl, ct, hd⟩ : Ent)]) = y.e := by
        rw [cutOld, if_pos hgtl, hgone, Nat.add_sub_cancel, List.getD_eq_getElem?_getD, hy]; rfl
      have hents : cutEnts lim (es ++ [(⟨e', D, wl, ct, hd⟩ : Ent)]) = (es ++ [(⟨e', D, wl, ct, hd⟩ : Ent)]).drop (G + 1) := by rw [cutEnts, if_pos hgtl, hgone]
      have HCE : Hid (cutOld lim old (es ++ [(⟨e', D, wl, ct, hd⟩ : Ent)]) = y.e ∧ cutEnts lim (es ++ [(⟨e', D, wl, ct, hd⟩ : Ent)]) = (es ++ [(⟨e', D, wl, ct, hd⟩ : Ent)]).drop (G + 1)) := ⟨hold, hents⟩
      clear hgone hgtl hold hents
      have hgh : g ≠ h := fun e => row_ne HC9.out.row HC9.out.blk (by decide) (by rw [← e]; rfl)
      have hnews : ∀ j u, (flat ((es ++ [(⟨e', D, wl, ct, hd⟩ : Ent)]).drop (G + 1)))[j]? = some u → (w9.setCell ⟨h, 4, none⟩ (.int .u64 y.e)).cell? ((⟨g, (G + 1) * 20, none⟩ : Addr).add j) = some u := fun j u hu => by
        have hrow : (w9.setCell ⟨h, 4, none⟩ (.int .u64 y.e)).ownsRow B 73 20 _ _ _ := ownsRow_of_block HC9.out.row fun k hk => heap_setCell_other _ _ _ _ (by simp only [Value.ownBlock, Option.some.injEq] at hk; subst hk; exact hgh)
        have := hrow.cells (g := g) rfl ((G + 1) * 20 + j) u (by rw [← hu, ← flat_drop _ hgood, List.getElem?_drop])
        rw [Addr.add_lit, Nat.zero_add] at this
        rw [Addr.add_lit]
        exact this
      have hlnew : (flat ((es ++ [(⟨e', D, wl, ct, hd⟩ : Ent)]).drop (G + 1))).length = (es.length - G) * 20 := by
        rw [flat_length (hgood.drop _)]; simp
      have h1c : ∀ u ∈ flat ((es ++ [(⟨e', D, wl, ct, hd⟩ : Ent)]).drop (G + 1)), u.oneCell' = true := fun u hu => by
        obtain ⟨z, hz, hzu⟩ := List.mem_flatMap.1 hu
        exact Ent.oneCell ((hgood.drop _) z hz) u hzu
      have HLN := hide hlnew
      have H1C := hide h1c
      have hsz9 : w.heap.size ≤ w9.heap.size := HC9.out.size
      by_cases hcg : cap = G + 1
      · subst hcg
        have hnil : flat ((es ++ [(⟨e', D, wl, ct, hd⟩ : Ent)]).drop (G + 1)) = [] := by rw [List.drop_eq_nil_of_le (by simp; omega)]; rfl
        have hde : (es ++ [(⟨e', D, wl, ct, hd⟩ : Ent)]).drop (G + 1) = [] := List.drop_eq_nil_of_le (by simp; omega)
        have HD : Hid (Noted B h w ((w9.setCell ⟨h, 4, none⟩ (.int .u64 y.e)).setCell ⟨h, 2, none⟩ (.slice none 0 0)) e' mb lim chv.ownBlock (ms + 1) (M.put (kl D) (.lit (.int .u64 e'))) y.e ((es ++ [(⟨e', D, wl, ct, hd⟩ : Ent)]).drop (G + 1))) := HC9.out.done hlt hmlt (by rw [hde]; exact World.ownsRow_nil _ _ _ _) ⟨rfl, rfl, rfl, Nat.le_refl _, fun _ _ _ => rfl⟩
        clear hnews hlnew h1c hnil hde
        go_wp2_with fail
        go_end0
        exact ⟨rfl, by rw [HCE.out.1, HCE.out.2]; exact HD.out⟩
      · have HNW := hide hnews
        clear hnews hlnew h1c
        go_wp2_with (at_builtin; go_loud (refine wpList_append_own_at _ rfl (.const (.slice none 0 0)) (.tmp 114) 68 rfl B 73 i73 z73 20 48 Try.underlying68 hi hz0 hz1 hz2 rfl (by decide) (.slice none 0 0) 0 [] rfl (World.ownsRow_nil _ _ _ _) ⟨g, (G + 1) * 20, none⟩ (es.length - G) (cap - (G + 1)) _ rfl HLN.out HNW.out H1C.out (by unfold maxLen; omega) (by omega) (by simp only [World.setCell, Array.size_modify]; omega) ?_))
        intro v11 w11 q1 q2 q3 q4
        obtain ⟨ao, n', c', rfl⟩ : ∃ ao n' c', v11 = .slice ao n' c' := by
          rcases q1.2 with ⟨rfl, _⟩ | ⟨g', cap', cur', rfl, _⟩
          · exact ⟨_, _, _, rfl⟩
          · exact ⟨_, _, _, rfl⟩
        have hls : ((es ++ [(⟨e', D, wl, ct, hd⟩ : Ent)]).drop (G + 1)).length = es.length - G := by simp
        have HD : Hid (Noted B h w (w11.setCell ⟨h, 2, none⟩ (.slice ao n' c')) e' mb lim chv.ownBlock (ms + 1) (M.put (kl D) (.lit (.int .u64 e'))) y.e ((es ++ [(⟨e', D, wl, ct, hd⟩ : Ent)]).drop (G + 1))) := HC9.out.done hlt hmlt (by simpa [hls] using q1) q2
        have h11 : w11.heap[h]? = _ := (q2.block h (by simp only [World.setCell, Array.size_modify]; omega) (by intro e; cases e)).trans (heap_setCell_same w9 h 4 _ 71 (.int .u64 y.e) HC9.out.blk)
        have hc2' := hcell h11 2 rfl
        have hf2' : w11.frozen? ⟨h, 2, none⟩ = false := by simp [World.frozen?, h11]
        simp only [List.getElem_toArray, List.getElem_cons_zero, List.getElem_cons_succ, List.setIfInBounds_toArray, List.set_cons_succ, List.set_cons_zero] at hc2'
        clear q1 q2 q3 q4 h11 hc2 hc4 hc5 hcy hcy' hf2 hf4 HC9
        go_wp2_with fail
        go_end0
        exact ⟨rfl, by rw [HCE.out.1, HCE.out.2]; exact HD.out⟩
    · have hd1 : decide (lim < (es.length : Int) + 1) = false := decide_eq_false hgt
      go_quiet (fail)
      go_wp2_with fail
      go_end0
      have hl1' : (es ++ [(⟨e', D, wl, ct, hd⟩ : Ent)]).length = es.length + 1 := by simp
      have hng : ¬ (lim < ((es ++ [(⟨e', D, wl, ct, hd⟩ : Ent)]).length : Int)) := by rw [hl1']; omega
      have s := HC.out.drewN nq
      refine ⟨rfl, ⟨_, (by rw [cutOld, if_neg hng]; exact s.blk), (by rw [cutEnts, if_neg hng]; exact s.row)⟩, s.map, s.os, s.tape, s.output, s.size, s.block⟩
end Go.Proofs.Qxb6603893a
