import Derived.Test.Qxb6600487aLoop
namespace Go.Proofs.Qxb6600487a
open Go.RowKit Dec Go.Maps
set_option linter.unusedVariables false

theorem heap_new (w : World) (o : Obj) : (w.alloc o).heap[w.heap.size]? = some o := by rw [← World.alloc_eq]; exact Array.getElem?_push_size

/-- The index 'ZZNewNameIndex' makes. -/
theorem Index.start (B : Nat) (w : World) (hB : B ≤ w.heap.size) : Index B ((w.alloc (.map #[] 0)).alloc (.cells #[.slice none 0 0, .map (some w.heap.size), .int .i64 0] 56)) (w.heap.size + 1) w.heap.size [] := by
  refine ⟨.slice none 0 0, [], 0, .map [], ⟨?_, ⟨Or.inl ⟨rfl, rfl⟩, by simp⟩, ?_, by omega, by omega⟩, Facts.start⟩
  · have := heap_new (w.alloc (.map #[] 0)) (.cells #[.slice none 0 0, .map (some w.heap.size), .int .i64 0] 56)
    simpa using this
  · exact (World.ownsMap_made w Try.prog 9 (plainElem Try.prog 21)).alloc _

theorem seenIs_nil : SeenIs (.map [] : DataW Unit) [] := ⟨tidy_empty, fun s => rfl⟩

theorem L2.start (B n : Nat) (ss : List ByteArray) (w0 w : World) (hB : B < w.heap.size) (hn : NamesAt w B n ss) (hb : Below B w0 w) :
    L2 B w0 ((((w.alloc (.map #[] 0)).alloc (.cells #[.slice none 0 0, .map (some w.heap.size), .int .i64 0] 56)).alloc (.map #[] 0)).alloc (.cells #[] 3)) B (w.heap.size + 1) w.heap.size (w.heap.size + 1 + 1) n ss [] [] (.slice (some ⟨w.heap.size + 1 + 1 + 1, 0, none⟩) 0 0) 0 where
  idx := by
    refine (Index.start B w (by omega)).same fun k hk _ _ => ?_
    rw [Below.heap_alloc _ _ k (by simp at hk ⊢; omega), Below.heap_alloc _ _ k hk]
  names := by
    obtain ⟨c, hc, h2⟩ := hn
    refine ⟨c, ?_, h2⟩
    rw [Below.heap_alloc _ _ B (by simp; omega), Below.heap_alloc _ _ B (by simp; omega), Below.heap_alloc _ _ B (by simp; omega), Below.heap_alloc _ _ B (by omega)]
    exact hc
  seen := by
    refine ⟨.map [], ?_, seenIs_nil⟩
    have := (World.ownsMap_made ((w.alloc (.map #[] 0)).alloc (.cells #[.slice none 0 0, .map (some w.heap.size), .int .i64 0] 56)) Try.prog 9 (plainElem (H := Unit) Try.prog 4)).alloc (.cells #[] 3)
    simpa using this
  ord := by
    have := World.ownsRow_made (base := B) (e := 3) (size := 1) (((w.alloc (.map #[] 0)).alloc (.cells #[.slice none 0 0, .map (some w.heap.size), .int .i64 0] 56)).alloc (.map #[] 0)) #[] 0 (by simp; omega) (by unfold maxLen; omega) (by simp)
    simpa using this
  ornil := by simp [Value.ownBlock]
  sbm := by omega
  bs := by omega
  bg := Nat.le_refl _
  below := (((hb.alloc (by omega) _).alloc (by simp; omega) _).alloc (by simp; omega) _).alloc (by simp; omega) _
  size := by simp; omega
  len := rfl
  at_ := fun v h => by simp at h
  inj := fun v v' h => by simp at h

theorem L2.shape {B : Nat} {w0 wr : World} {gn xb mb sb n : Nat} {ss U : List ByteArray} {O : List Int} {ov : Value} {m : Nat} (h : L2 B w0 wr gn xb mb sb n ss U O ov m) :
    ∃ gs cS, ov = .slice (some ⟨gs, 0, none⟩) U.length cS ∧ ∀ u, u < U.length → wr.cell? ⟨gs, u, none⟩ = some (.int .i64 (O.getD u 0)) := by
  have := own_shape h.ord h.ornil
  rw [h.len] at this
  exact this

/-- What the third loop reads. -/
structure L3 (B : Nat) (w0 wr : World) (gn xb mb n : Nat) (ss U : List ByteArray) (O : List Int) (gs : Nat) (bv : Value) (T : List Int) (dn : Int) (D : DataW Unit) : Prop where
  nix : Nix B wr xb mb bv T dn U.length D
  names : NamesAt wr gn n ss
  ords : ∀ u, u < U.length → wr.cell? ⟨gs, u, none⟩ = some (.int .i64 (O.getD u 0))
  below : Below B w0 wr
  size : B ≤ wr.heap.size

theorem L3.next {B : Nat} {w0 wr w' : World} {gn xb mb n : Nat} {ss U : List ByteArray} {O : List Int} {gs : Nat} {bv : Value} {T : List Int} {dn : Int} {D : DataW Unit} (h : L3 B w0 wr gn xb mb n ss U O gs bv T dn D) (hb : Below wr.heap.size wr w') : L3 B w0 w' gn xb mb n ss U O gs bv T dn D where
  nix := by
    refine ⟨?_, ?_, ?_, h.nix.bx, h.nix.bm⟩
    · rw [hb.block xb (lt_of_heap h.nix.blk)]; exact h.nix.blk
    · exact h.nix.tab.kept fun g c hgc => hb.block g (lt_of_heap hgc)
    · obtain ⟨es, cl, h1, r⟩ := h.nix.map
      exact ⟨es, cl, by rw [hb.block mb (lt_of_heap h1)]; exact h1, r⟩
  names := by
    obtain ⟨c, hc, _⟩ := id h.names
    exact h.names.same (hb.block gn (lt_of_heap hc))
  ords := fun u hu => (hb.cell (p := ⟨gs, u, none⟩) (World.block_lt_of_cell? wr _ (h.ords u hu))).trans (h.ords u hu)
  below := h.below.trans (hb.mono h.size)
  size := Nat.le_trans h.size hb.size

/-- What the third loop needs of the names and of the index. -/
structure Ends (n : Nat) (ss U : List ByteArray) (O : List Int) (T : List Int) (dn : Int) (D : DataW Unit) : Prop where
  facts : Facts U T dn D
  at_ : ∀ v, v < U.length → ∃ j : Nat, j < n ∧ O.getD v 0 = (j : Int) ∧ nth9 ss j = nth9 U v
  inj : ∀ v v', v < U.length → v' < U.length → nth9 U v = nth9 U v' → v = v'

theorem inTab_dec {s : ByteArray} {v k : Nat} (h : inTab s v = some k) : dec (nb s) = some k := by
  unfold inTab at h
  cases hd : dec (nb s) with
  | none => rw [hd] at h; cases h
  | some q =>
    rw [hd] at h
    simp only [] at h
    by_cases e : (q : Int) < 4 * (v : Int) + 65536
    · rw [if_pos e] at h; exact h
    · rw [if_neg e] at h; cases h

theorem nb_inj {s t : ByteArray} (h : nb s = nb t) : s = t := by
  rw [← nb_toList s, ← nb_toList t] at h
  have := map_toNat_inj _ _ h
  exact data_inj (by rwa [ByteArray.toList_eq, ByteArray.toList_eq] at this)

theorem Ends.notByName {n : Nat} {ss U : List ByteArray} {O : List Int} {T : List Int} {dn : Int} {D : DataW Unit} (h : Ends n ss U O T dn D) {v k : Nat} (hv : v < U.length) (hin : inTab (nth9 U v) v = some k) : Maps.has D (key (nth9 U v)) = false := by
  cases e : Maps.has D (key (nth9 U v)) with
  | false => rfl
  | true =>
    obtain ⟨v', h1, h2, h3⟩ := h.facts.has _ e
    obtain rfl := h.inj v' v h1 hv (data_inj h3)
    rw [hin] at h2; cases h2

theorem Ends.notInTab {n : Nat} {ss U : List ByteArray} {O : List Int} {T : List Int} {dn : Int} {D : DataW Unit} (h : Ends n ss U O T dn D) {v k : Nat} (hv : v < U.length) (hin : inTab (nth9 U v) v = none) (hd : dec (nb (nth9 U v)) = some k) : T.getD k 0 = 0 := by
  by_cases e : T.getD k 0 = 0
  · exact e
  · obtain ⟨v', h1, h2⟩ := h.facts.only k e
    have h3 := inTab_dec h2
    obtain rfl := h.inj v' v h1 hv (nb_inj (dec_inj h3 hd))
    rw [hin] at h2; cases h2
end Go.Proofs.Qxb6600487a
