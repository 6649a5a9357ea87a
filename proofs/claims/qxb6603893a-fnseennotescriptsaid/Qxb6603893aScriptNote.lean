/-
  The history behind j notes of a script.
-/
import Derived.Test.Qxb6603893aScriptHist
namespace Go.Proofs.Qxb6603893a
open Go.RowKit Go.Maps Script
set_option linter.unusedVariables false

set_option maxHeartbeats 1000000 in
theorem new15nil (lim : Int) (w : World) :
    Calls Try.prog 15 #[.int .u64 0, .bool true, .slice none 0 0, .slice none 0 0, .slice none 0 0, .slice none 0 0, .slice none 0 0, .bool false, .slice none 0 0, .slice none 0 0, .int .u64 0, .int .i64 lim] w fun ex w' =>
      ∃ h mb, ex = .returned (.pointer (some ⟨h, 0, none⟩)) ∧ Hst w.heap.size h 0 true (some mb) 0 lim [] 0 (.map []) w' ∧ Below w.heap.size w w' := by
  have hmm := makeMap_hint
  go_enter Try.func15, Try.ntmps15
  go_wp2_with fail
  refine wp_loop_rounds 1 ?_
  rw [rounds_succ]
  go_wp2
  go_ret
  have hb : Below w.heap.size w ((w.alloc (.map #[] 0)).alloc (.cells #[.int .u64 0, .bool true, .slice none 0 0, .map (some w.heap.size), .int .u64 0, .int .i64 lim] 71)) := ((Below.refl _ _).alloc (Nat.le_refl _) _).alloc (by simp) _
  have hh := heap_alloc_new (w.alloc (.map #[] 0)) (.cells #[.int .u64 0, .bool true, .slice none 0 0, .map (some w.heap.size), .int .u64 0, .int .i64 lim] 71)
  refine ⟨_, w.heap.size, rfl, ⟨by omega, ⟨.slice none 0 0, by simpa using hh, World.ownsRow_nil _ _ _ _⟩, fun mb hm => ?_⟩, hb⟩
  cases hm
  exact ⟨Nat.le_refl _, (World.ownsMap_made w Try.prog 65 (plainElem Try.prog 28)).alloc _⟩

/-- A device of zeros, for places behind the script's end. -/
def z16 : List Value := List.replicate 16 (.int .u8 0)
theorem dev_z16 : Dev z16 := ⟨rfl, fun v hv => ⟨0, List.eq_of_mem_replicate hv, by decide⟩⟩
noncomputable def mkSc (ks : List (List Value)) (ms : List Bool) (ws cs : List Int) (hs : List Bool) : Sc :=
  { key := fun k => kl (ks.getD k z16), mark := fun k => ms.getD k false, D := fun k => ks.getD k z16, wl := fun k => ws.getD k 0, ct := fun k => cs.getD k 0, hd := fun k => hs.getD k false }

/-- What is asked of a script. -/
structure Good (s : Sc) : Prop where
  dev : ∀ k, Dev (s.D k)
  key : ∀ k, s.key k = kl (s.D k)
theorem mkSc_good {ks : List (List Value)} (h : ∀ D ∈ ks, Dev D) (ms : List Bool) (ws cs : List Int) (hs : List Bool) : Good (mkSc ks ms ws cs hs) := by
  refine ⟨fun k => ?_, fun k => rfl⟩
  show Dev (ks.getD k z16)
  rw [List.getD_eq_getElem?_getD]
  cases hk : ks[k]? with
  | none => exact dev_z16
  | some D => exact h D (List.mem_of_getElem? hk)
theorem F_mem (s : Sc) : ∀ {j k : Nat}, k ∈ F s j → k < j
  | 0, k, h => by simp [F] at h
  | j + 1, k, h => by
    simp only [F] at h
    rcases List.mem_append.1 h with h | h
    · exact Nat.lt_succ_of_lt (F_mem s h)
    · split at h
      · have : k = j := by simpa using h
        omega
      · cases h
theorem F_len (s : Sc) : ∀ j, (F s j).length ≤ j
  | 0 => Nat.le_refl _
  | j + 1 => by
    have := F_len s j
    simp only [F]
    split <;> simp <;> omega
theorem kept_goods {s : Sc} (h : Good s) (l j : Nat) : Goods (kept s l j) := fun x hx => by
  obtain ⟨k, _, rfl⟩ := List.mem_map.1 hx
  exact h.dev k
theorem kept_len (s : Sc) (l j : Nat) : (kept s l j).length ≤ j := by
  rw [kept_length]
  exact Nat.le_trans (cn_le _ _) (F_len s j)

/-- Behind j notes; 'mk': the mark. -/
def SJ (s : Sc) (l : Nat) (S h mb j : Nat) (mk : Bool) (w : World) : Prop :=
  ∃ (M : DataW Unit) (ms : Nat), Hst S h (ec s j : Nat) mk (some mb) (oldest s l j) (l : Int) (kept s l j) ms M w ∧ MapIs s j M ∧ ms ≤ j

theorem wrap_u64 (n : Nat) (h : n < 1000000) : IntKind.u64.wrap ((n : Int) + 1) = ((n + 1 : Nat) : Int) := by
  simp [IntKind.wrap, IntKind.bits, IntKind.signed]
  omega
theorem bump_ep (s : Sc) (j : Nat) (hj : j < 1000000) : bump (decide (j = 0) || s.mark j) (ec s j : Nat) = (ep s j : Nat) := by
  have := ec_le s j
  unfold bump ep
  simp only [ec]
  by_cases hc : j = 0 ∨ s.mark j = true
  · have hb : (decide (j = 0) || s.mark j) = true := by simpa using hc
    rw [hb, if_pos rfl, if_pos hc, wrap_u64 _ (by omega)]
  · have hb : (decide (j = 0) || s.mark j) = false := by simpa using hc
    rw [hb, if_neg (by simp), if_neg hc]
    simp
theorem wf_nat (n : Nat) (h : n < 1000000) : (Lit.int .u64 (n : Int)).wf = true := by
  simp [Lit.wf, IntKind.min, IntKind.max, IntKind.signed, IntKind.bits]
  omega

theorem noteS {s : Sc} (hs : Good s) {l S h mb j : Nat} {w : World} (H : SJ s l S h mb j (decide (j = 0) || s.mark j) w) (hSw : S ≤ w.heap.size) (hj : j < 100000) (hl : (l : Int) ≤ 9223372036854775807) :
    Calls Try.prog 10 #[.pointer (some ⟨h, 0, none⟩), .agg (s.D j).toArray, .int .i64 (s.wl j), .int .u32 (s.ct j), .bool (s.hd j)] w fun ex w' => ex = .returned (.tuple #[]) ∧ (SJ s l S h mb (j + 1) false w' ∧ Below S w w' ∧ TF w w') := by
  obtain ⟨M, ms, H1, H2, H3⟩ := H
  have hb := bump_ep s j (by omega)
  have hep : ep s j ≤ j + 1 := ec_le s (j + 1)
  have hec : ((ec s (j + 1) : Nat) : Int) = (ep s j : Nat) := rfl
  refine (noteX H1 hSw (hs.dev j) (s.wl j) (s.ct j) (s.hd j) (Nat.le_trans (kept_len s l j) (by omega)) (kept_goods hs l j) (by unfold maxLen; omega) (by omega) hl (by rw [hb]; exact wf_nat _ (by omega))).mono ?_
  rintro ex w' ⟨rfl, hc, h1, h2⟩
  rw [hb, ← hs.key j] at hc
  refine ⟨rfl, ?_, h1, h2⟩
  rcases hc with ⟨hq, hH⟩ | ⟨hq, hH⟩
  · have hA := H2.hit.1 hq
    have hF : isFirst s j = false := by simp [isFirst, hA]
    obtain ⟨k1, k2⟩ := kept_again s (lim := l) hF
    refine ⟨M, ms, ?_, H2.again hA, by omega⟩
    rw [k1, k2, hec]
    exact hH
  · have hA : ¬ Again s j := fun hA => hq (H2.hit.2 hA)
    have hF : isFirst s j = true := by simp [isFirst, hA]
    obtain ⟨k1, k2⟩ := kept_first s (lim := l) (l := (l : Int)) rfl hF
    have hkey := law65.key (hs.dev j).hkey
    rw [← hs.key j] at hkey
    have hm := (H1.map mb rfl).2
    refine ⟨_, ms + 1, ?_, H2.put hm.isMap (hm.tidy law65) hkey, by omega⟩
    rw [k1, k2, hec]
    exact hH
end Go.Proofs.Qxb6603893a
