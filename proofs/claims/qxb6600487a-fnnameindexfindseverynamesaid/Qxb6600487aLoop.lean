import Derived.Test.Qxb6600487aNames
namespace Go.Proofs.Qxb6600487a
open Go.RowKit Dec Go.Maps
set_option linter.unusedVariables false

/-! ### What the law's second loop carries -/

theorem Index.same {B : Nat} {w w' : World} {xb mb : Nat} {U : List ByteArray} (h : Index B w xb mb U)
    (hk : ∀ k, k < w.heap.size → (∀ es cl, w.heap[k]? = some (.map es cl) → k = mb) → (∀ c fr, w.heap[k]? ≠ some (.cells c 3 fr)) → w'.heap[k]? = w.heap[k]?) : Index B w' xb mb U := by
  obtain ⟨bv, T, dn, D, hN, hF⟩ := h
  refine ⟨bv, T, dn, D, ⟨?_, ?_, ?_, hN.bx, hN.bm⟩, hF⟩
  · rw [hk xb (lt_of_heap hN.blk) (fun es cl e => by rw [hN.blk] at e; cases e) (fun c fr e => by
      rw [hN.blk] at e; simp only [Option.some.injEq, Obj.cells.injEq] at e; exact absurd e.2.1 (by decide))]
    exact hN.blk
  · refine hN.tab.kept fun g c hgc => hk g (lt_of_heap hgc) (fun es cl e => by rw [hgc] at e; cases e) (fun c' fr e => by
      rw [hgc] at e; simp only [Option.some.injEq, Obj.cells.injEq] at e; exact absurd e.2.1 (by decide))
  · obtain ⟨es, cl, hb, r⟩ := hN.map
    refine ⟨es, cl, ?_, r⟩
    rw [hk mb (lt_of_heap hb) (fun _ _ _ => rfl) (fun c fr e => by rw [hb] at e; cases e)]
    exact hb

/-- The names of the law's own copy. -/
def NamesAt (w : World) (gn n : Nat) (ss : List ByteArray) : Prop := ∃ c : Array Value, w.heap[gn]? = some (.cells c 9 (0, 0)) ∧ ∀ j, j < n → c[j]? = some (.string (nth9 ss j))
theorem NamesAt.cell {w : World} {gn n : Nat} {ss : List ByteArray} (h : NamesAt w gn n ss) (j : Nat) (hj : j < n) : w.cell? ⟨gn, j, none⟩ = some (.string (nth9 ss j)) := by
  obtain ⟨c, h1, h2⟩ := h
  rw [cell_of_row w gn j c 9 _ h1]; exact h2 j hj
theorem NamesAt.same {w w' : World} {gn n : Nat} {ss : List ByteArray} (h : NamesAt w gn n ss) (hk : w'.heap[gn]? = w.heap[gn]?) : NamesAt w' gn n ss := by
  obtain ⟨c, h1, h2⟩ := h; exact ⟨c, by rw [hk]; exact h1, h2⟩

def mem9 (s : ByteArray) (U : List ByteArray) : Bool := U.any fun t => t.data.toList == s.data.toList
theorem mem9_iff {s : ByteArray} {U : List ByteArray} : mem9 s U = true ↔ s ∈ U := by
  unfold mem9
  rw [List.any_eq_true]
  constructor
  · rintro ⟨t, ht, e⟩
    rw [← data_inj (eq_of_beq e)]; exact ht
  · intro h
    exact ⟨s, h, beq_self_eq_true _⟩
theorem mem9_not {s : ByteArray} {U : List ByteArray} (h : mem9 s U = false) : s ∉ U := fun e => by
  rw [mem9_iff.2 e] at h; cases h

/-- The set of the names met, as the map reads. -/
def SeenIs (Ds : DataW Unit) (U : List ByteArray) : Prop := Tidy Ds ∧ ∀ s : ByteArray, Ds.atKey (key s) (.lit (.bool false)) = .lit (.bool (mem9 s U))

theorem SeenIs.put {Ds : DataW Unit} {U : List ByteArray} (h : SeenIs Ds U) (s : ByteArray) : SeenIs (Ds.put (key s) (.lit (.bool true))) (U ++ [s]) := by
  refine ⟨h.1.put (isKeyLit_key s) _, fun t => ?_⟩
  by_cases e : t = s
  · subst e
    rw [atKey_put_same h.1.isMap (isKeyLit_key t)]
    rw [mem9_iff.2 (List.mem_append_right _ (List.mem_singleton.2 rfl))]
  · rw [atKey_put_other (key_ne e), h.2]
    have : mem9 t (U ++ [s]) = mem9 t U := by
      rw [Bool.eq_iff_iff, mem9_iff, mem9_iff, List.mem_append, List.mem_singleton]
      exact ⟨fun h => h.resolve_right e, Or.inl⟩
    rw [this]

structure L2 (B : Nat) (w0 wr : World) (gn xb mb sb n : Nat) (ss U : List ByteArray) (O : List Int) (ov : Value) (m : Nat) : Prop where
  idx : Index B wr xb mb U
  names : NamesAt wr gn n ss
  seen : ∃ Ds, wr.ownsMap Try.prog 9 (plainElem Try.prog 4) sb m Ds ∧ SeenIs Ds U
  ord : wr.ownsRow B 3 1 ov O.length (O.map (Value.int .i64))
  ornil : ov.ownBlock ≠ none
  sbm : sb ≠ mb
  bs : B ≤ sb
  bg : B ≤ gn
  below : Below B w0 wr
  size : B ≤ wr.heap.size
  len : O.length = U.length
  at_ : ∀ v, v < U.length → ∃ j : Nat, j < n ∧ O.getD v 0 = (j : Int) ∧ nth9 ss j = nth9 U v
  inj : ∀ v v', v < U.length → v' < U.length → nth9 U v = nth9 U v' → v = v'

theorem plainElem_bool_inv {v : Value} {z : DataW Unit × List MemPlace} (h : plainElem Try.prog 4 v = some z) : ∃ x, v = .bool x ∧ z = (.lit (.bool x), []) := by
  unfold plainElem at h
  rw [Try.underlying4] at h
  cases v <;> simp at h
  exact ⟨_, rfl, h.symm⟩

theorem zero4 (w : World) : (zeroValue 4).run Try.prog w = .ok (.bool false) w := by kernel_rfl

/-- 'seen[s]' -/
theorem L2.look {B : Nat} {w0 wr : World} {gn xb mb sb n : Nat} {ss U : List ByteArray} {O : List Int} {ov : Value} {m : Nat} (h : L2 B w0 wr gn xb mb sb n ss U O ov m) (s : ByteArray) (hs : s.size ≤ maxLen) :
    (Instr.lookup 34 (.map (some sb)) (.string s) false).run Try.prog wr = .ok (.bool (mem9 s U)) wr := by
  obtain ⟨Ds, hm, hS⟩ := h.seen
  obtain ⟨v, ps, hrun, hv⟩ := hm.lookup law9 (t := 34) (e := 4) Try.underlying34 (zero4 wr) (plainElem_bool Try.underlying4 false) (hkey9 s hs)
  obtain ⟨x, rfl, hx⟩ := plainElem_bool_inv hv
  rw [hrun]
  have := hS.2 s
  simp only [Prod.mk.injEq] at hx
  rw [hx.1] at this
  simp only [DataW.lit.injEq, Lit.bool.injEq] at this
  rw [this]

/-- The store into 'seen', the addition, the append: one lemma a step. -/
theorem L2.stored {B : Nat} {w0 wr w1 : World} {gn xb mb sb n : Nat} {ss U : List ByteArray} {O : List Int} {ov : Value} {m : Nat} (h : L2 B w0 wr gn xb mb sb n ss U O ov m) {s : ByteArray} {Ds : DataW Unit}
    (hS : SeenIs Ds U) (hm : w1.ownsMap Try.prog 9 (plainElem Try.prog 4) sb (m + 1) (Ds.put (key s) (.lit (.bool true)))) (hg : wr.grownBy w1 (some sb)) (hsm : wr.ownsMap Try.prog 9 (plainElem Try.prog 4) sb m Ds) :
    Index B w1 xb mb U ∧ NamesAt w1 gn n ss ∧ w1.ownsRow B 3 1 ov O.length (O.map (Value.int .i64)) ∧ Below B w0 w1 ∧ B ≤ w1.heap.size := by
  obtain ⟨es, cl, hb, _⟩ := hsm
  refine ⟨h.idx.same fun k hk h1 _ => hg.block k hk ?_, ?_, ?_, h.below.grown hg h.size (fun k e => by cases e; exact h.bs), Nat.le_trans h.size hg.size⟩
  · intro e
    simp only [Option.some.injEq] at e
    subst e
    exact h.sbm (h1 es cl hb)
  · obtain ⟨c, hc, _⟩ := h.names
    refine h.names.same (hg.block gn (lt_of_heap hc) ?_)
    intro e
    simp only [Option.some.injEq] at e
    subst e
    rw [hb] at hc; cases hc
  · refine h.ord.kept hg ?_
    rcases h.ord.2 with ⟨rfl, _⟩ | ⟨g, cp, cur, rfl, _, hgg, _⟩
    · exact Or.inl rfl
    · right
      intro e
      simp only [Value.ownBlock, Option.some.injEq] at e
      subst e
      rw [hb] at hgg; cases hgg

theorem added {B : Nat} {w0 w1 w2 : World} {gn xb mb sb n : Nat} {ss U : List ByteArray} {O : List Int} {ov : Value} {m : Nat} {D : DataW Unit}
    (hm : w1.ownsMap Try.prog 9 (plainElem Try.prog 4) sb m D) (hn : NamesAt w1 gn n ss) (ho : w1.ownsRow B 3 1 ov O.length (O.map (Value.int .i64))) (hb : Below B w0 w1) (hs : B ≤ w1.heap.size) (hsm : sb ≠ mb)
    (hx : ∃ c fr, w1.heap[xb]? = some (.cells c 56 fr)) (hmm : ∃ es cl, w1.heap[mb]? = some (.map es cl)) (hK : Kept B xb mb w1 w2) :
    w2.ownsMap Try.prog 9 (plainElem Try.prog 4) sb m D ∧ NamesAt w2 gn n ss ∧ w2.ownsRow B 3 1 ov O.length (O.map (Value.int .i64)) ∧ Below B w0 w2 ∧ B ≤ w2.heap.size := by
  obtain ⟨cx, frx, hx⟩ := hx
  obtain ⟨ems, emc, hmm⟩ := hmm
  refine ⟨?_, ?_, ?_, hb.trans hK.below, Nat.le_trans hs hK.below.size⟩
  · obtain ⟨es, cl, h1, r⟩ := hm
    refine ⟨es, cl, ?_, r⟩
    rw [hK.other sb (lt_of_heap h1) (by rintro rfl; rw [hx] at h1; cases h1) hsm (fun c fr e => by rw [h1] at e; cases e)]
    exact h1
  · obtain ⟨c, hc, _⟩ := id hn
    refine hn.same (hK.other gn (lt_of_heap hc) (by rintro rfl; rw [hx] at hc; simp only [Option.some.injEq, Obj.cells.injEq] at hc; exact absurd hc.2.1 (by decide)) (by rintro rfl; rw [hmm] at hc; cases hc)
      (fun c' fr e => by rw [hc] at e; simp only [Option.some.injEq, Obj.cells.injEq] at e; exact absurd e.2.1 (by decide)))
  · refine ⟨ho.1, ?_⟩
    rcases ho.2 with h | ⟨g, cp, cur, rfl, hBg, hgg, r⟩
    · exact Or.inl h
    · refine Or.inr ⟨g, cp, cur, rfl, hBg, ?_, r⟩
      rw [hK.other g (lt_of_heap hgg) (by rintro rfl; rw [hx] at hgg; simp only [Option.some.injEq, Obj.cells.injEq] at hgg; exact absurd hgg.2.1 (by decide)) (by rintro rfl; rw [hmm] at hgg; cases hgg)
        (fun c' fr e => by rw [hgg] at e; simp only [Option.some.injEq, Obj.cells.injEq] at e; exact absurd e.2.1 (by decide))]
      exact hgg

theorem Index.blocks {B : Nat} {w : World} {xb mb : Nat} {U : List ByteArray} (h : Index B w xb mb U) : (∃ c fr, w.heap[xb]? = some (.cells c 56 fr)) ∧ (∃ es cl, w.heap[mb]? = some (.map es cl)) := by
  obtain ⟨bv, T, dn, D, hN, hF⟩ := h
  obtain ⟨es, cl, hb, _⟩ := hN.map
  exact ⟨⟨_, _, hN.blk⟩, ⟨_, _, hb⟩⟩

/-- Behind the append onto 'order'. -/
theorem appended {B : Nat} {w0 w2 w3 : World} {gn xb mb sb n : Nat} {ss U : List ByteArray} {O : List Int} {ov v' : Value} {m : Nat} {D : DataW Unit} {o : Obj} {x : Int} {s : ByteArray} {i : Nat}
    (hI : Index B w2 xb mb (U ++ [s])) (hm : w2.ownsMap Try.prog 9 (plainElem Try.prog 4) sb m D) (hS : SeenIs D (U ++ [s])) (hn : NamesAt w2 gn n ss) (ho : w2.ownsRow B 3 1 ov O.length (O.map (Value.int .i64))) (hon : ov.ownBlock ≠ none)
    (hb : Below B w0 w2) (hs : B ≤ w2.heap.size) (hsm : sb ≠ mb) (hbs : B ≤ sb) (hbg : B ≤ gn)
    (hown : w3.ownsRow B 3 1 v' (O.length + 1) (O.map (Value.int .i64) ++ [.int .i64 x])) (hgrow : (w2.alloc o).grownBy w3 ov.ownBlock) (hloc : v'.ownBlock = ov.ownBlock ∨ v'.ownBlock = some (w2.alloc o).heap.size)
    (hlen : O.length = U.length) (hat : ∀ v, v < U.length → ∃ j : Nat, j < n ∧ O.getD v 0 = (j : Int) ∧ nth9 ss j = nth9 U v) (hx : x = (i : Int)) (hi : i < n) (hsi : nth9 ss i = s) (hnew : s ∉ U) (hinj : ∀ v v', v < U.length → v' < U.length → nth9 U v = nth9 U v' → v = v') :
    L2 B w0 w3 gn xb mb sb n ss (U ++ [s]) (O ++ [x]) v' m := by
  have hrow : ∀ k, k < w2.heap.size → (∀ c fr, w2.heap[k]? ≠ some (.cells c 3 fr)) → w3.heap[k]? = w2.heap[k]? := by
    intro k hk hne
    rw [hgrow.block k (by simp; omega) ?_, Below.heap_alloc w2 o k hk]
    intro e
    rcases ho.2 with ⟨rfl, _⟩ | ⟨g, cp, cur, rfl, _, hgg, _⟩
    · exact absurd rfl hon
    · simp only [Value.ownBlock, Option.some.injEq] at e
      subst e
      exact hne _ _ hgg
  refine ⟨hI.same fun k hk _ h2 => hrow k hk h2, ?_, ⟨D, ?_, hS⟩, by simpa using hown, ?_, hsm, hbs, hbg, ?_, ?_, by simp [hlen], ?_, ?_⟩
  · obtain ⟨c, hc, _⟩ := id hn
    exact hn.same (hrow gn (lt_of_heap hc) (fun c' fr e => by rw [hc] at e; simp only [Option.some.injEq, Obj.cells.injEq] at e; exact absurd e.2.1 (by decide)))
  · obtain ⟨es, cl, h1, r⟩ := hm
    exact ⟨es, cl, by rw [hrow sb (lt_of_heap h1) (fun c fr e => by rw [h1] at e; cases e)]; exact h1, r⟩
  · rcases hloc with e | e <;> rw [e]
    · exact hon
    · simp
  · exact (hb.alloc hs o).grown hgrow (by simp; omega) (fun k e => (ho.lt k e).1)
  · exact Nat.le_trans hs (Nat.le_trans (by simp) hgrow.size)
  · intro v hv
    rw [List.length_append, List.length_singleton] at hv
    by_cases e : v = U.length
    · subst e
      refine ⟨i, hi, ?_, by rw [nth9_new]; exact hsi⟩
      rw [List.getD_eq_getElem?_getD, List.getElem?_append_right (by omega), hlen, Nat.sub_self, hx]; rfl
    · obtain ⟨j, h1, h2, h3⟩ := hat v (by omega)
      refine ⟨j, h1, ?_, by rw [nth9_old (by omega)]; exact h3⟩
      rw [List.getD_eq_getElem?_getD, List.getElem?_append_left (by omega), ← List.getD_eq_getElem?_getD]; exact h2
  · intro v v' hv hv' e
    rw [List.length_append, List.length_singleton] at hv hv'
    by_cases h1 : v = U.length <;> by_cases h2 : v' = U.length
    · omega
    · rw [h1, nth9_new, nth9_old (by omega)] at e
      exact absurd (e ▸ nth9_mem (by omega)) hnew
    · rw [h2, nth9_new, nth9_old (by omega)] at e
      exact absurd (e ▸ nth9_mem (by omega)) hnew
    · rw [nth9_old (by omega), nth9_old (by omega)] at e
      exact hinj v v' (by omega) (by omega) e
end Go.Proofs.Qxb6600487a
