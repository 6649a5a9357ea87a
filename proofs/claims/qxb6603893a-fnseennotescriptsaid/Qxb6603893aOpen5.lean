/-
  The script's arguments, opened.
-/
import Derived.Test.Qxb6603893aOpen
import Derived.Test.Qxb6603893aSmall
namespace Go.Proofs.Qxb6603893a
open Go.RowKit Go.Maps Go.ChangeShapes Go.WideShapes
set_option linter.unusedVariables false

section
variable {H : Type} {enc : TypeId × Value → H} {w : World} {base : Nat} {spare : Nat → Bool} {held : Bool} {fuel : Nat} {a : Option Addr} {len cap : Nat} {x : DataW H × List MemPlace}

theorem devs_open (h : DataW.trod enc Try.prog w base spare held fuel 30 [.slice a len cap] = some x) : ∃ ks : List (List Value), ks.length = len ∧ len ≤ maxLen ∧ DevsAt w a ks := by
  obtain ⟨a', n, c, ls, q, s1, s2, s3, s4, s5⟩ := rows_open Try.underlying30 (sz := 16) (by kernel_rfl) (by omega) h
  cases q
  refine ⟨ls, s3, Nat.le_trans s1 s2, fun l hl => ?_, s5⟩
  obtain ⟨n, y, hy⟩ := s4 l hl
  exact dev_open hy

theorem ones_open {β : Type} (f : β → Value) {t e : TypeId} (ht : Try.prog.underlying t = some (.slice e)) (hsz : Try.prog.cellsOf e = 1)
    (hone : ∀ (n : Nat) (l : List Value) (y : DataW H × List MemPlace), DataW.trod enc Try.prog w base spare held n e l = some y → ∃ b, l = [f b])
    (h : DataW.trod enc Try.prog w base spare held fuel t [.slice a len cap] = some x) : ∃ bs : List β, bs.length = len ∧ len ≤ maxLen ∧ CellsAt w a (bs.map f) := by
  obtain ⟨a', n, c, ls, q, s1, s2, s3, s4, s5⟩ := rows_open ht hsz (by omega) h
  cases q
  obtain ⟨bs, b1, b2⟩ := list_choose (fun i (y : β) => ls[i]? = some [f y]) len fun i hi => by
    have hi' : i < ls.length := by omega
    obtain ⟨n, y, hy⟩ := s4 _ (List.getElem_mem hi')
    obtain ⟨b, hb⟩ := hone n _ y hy
    exact ⟨b, by rw [List.getElem?_eq_getElem hi', hb]⟩
  refine ⟨bs, b1, Nat.le_trans s1 s2, fun hne => ?_⟩
  obtain ⟨b, off, z1, z2, z3⟩ := s5 (fun e' => hne (by rw [List.eq_nil_of_length_eq_zero (l := bs) (by rw [b1, ← s3, e']; rfl)]; rfl))
  refine ⟨b, off, z1, z2, fun k v hk => ?_⟩
  rw [List.getElem?_map] at hk
  obtain ⟨y, hy, rfl⟩ := Option.map_eq_some_iff.1 hk
  have := z3 k _ (b2 k y hy) 0 (f y) rfl
  simpa using this

theorem bools_open (h : DataW.trod enc Try.prog w base spare held fuel 42 [.slice a len cap] = some x) : ∃ bs : List Bool, bs.length = len ∧ len ≤ maxLen ∧ CellsAt w a (bs.map Value.bool) :=
  ones_open Value.bool Try.underlying42 (by kernel_rfl) (fun n l y hy => by
    obtain ⟨b, q, _⟩ := DataW.trod_bool Try.underlying4 hy
    exact ⟨b, q⟩) h
theorem walls_open (h : DataW.trod enc Try.prog w base spare held fuel 40 [.slice a len cap] = some x) : ∃ bs : List Int, bs.length = len ∧ len ≤ maxLen ∧ CellsAt w a (bs.map (Value.int .i64)) :=
  ones_open (Value.int .i64) Try.underlying40 (by kernel_rfl) (fun n l y hy => by
    obtain ⟨b, q, _⟩ := DataW.trod_int Try.underlying2 hy
    exact ⟨b, q⟩) h
theorem counts_open (h : DataW.trod enc Try.prog w base spare held fuel 41 [.slice a len cap] = some x) : ∃ bs : List Int, bs.length = len ∧ len ≤ maxLen ∧ CellsAt w a (bs.map (Value.int .u32)) :=
  ones_open (Value.int .u32) Try.underlying41 (by kernel_rfl) (fun n l y hy => by
    obtain ⟨b, q, _⟩ := DataW.trod_int Try.underlying35 hy
    exact ⟨b, q⟩) h
end
end Go.Proofs.Qxb6603893a
