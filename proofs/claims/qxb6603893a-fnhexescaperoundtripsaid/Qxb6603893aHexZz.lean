import Derived.Test.Qxb6603893aHex
namespace Go.Proofs.Qxb6603893a
open Go.RowKit
set_option linter.unusedVariables false

theorem cell_past {w : World} {o : Obj} {g i : Nat} {v : Value} (hg : g < w.heap.size) (h : w.cell? ⟨g, i, none⟩ = some v) : (w.alloc o).cell? ⟨g, i, none⟩ = some v := by
  rw [World.cell?_alloc_past _ _ _ hg]; exact h

set_option maxHeartbeats 400000 in
theorem zz_yes (len cap : Nat) (g f : Nat) (i : Nat) (w : World) (hgw : g < w.heap.size)
    (hlen : len ≤ 2000000) (h : (i : Int) + 6 ≤ len) (hcap : len ≤ cap)
    (hc0 : w.cell? ⟨g, f + i, none⟩ = some (.int .u8 92)) (hc1 : w.cell? ⟨g, f + (i + 1), none⟩ = some (.int .u8 117)) 
    (c v : Nat → Int) (hcs : ∀ k, k < 4 → w.cell? ⟨g, f + (i + 2) + k, none⟩ = some (.int .u8 (c k))) (hv : ∀ k, 0 ≤ v k ∧ v k ≤ 15) (hcv : ∀ k, k < 4 → HexDig (c k) (v k)) :
    Calls Try.prog 7 #[.slice (some ⟨g, f, none⟩) len cap, .int .i64 0, .slice none 0 0, .int .u8 0, .slice none 0 0, .int .i64 i] w fun e w' => e = .returned (.tuple #[.int .i32 (acc v 4), .bool true]) ∧ Below w.heap.size w w' := by
  go_enter Try.func7, Try.ntmps7
  go_wp2_with fail
  refine (hex_yes w.heap.size 0 len cap g f i _ (by simp) hlen h hcap (cell_past hgw hc0) (cell_past hgw hc1) c v (fun k hk => cell_past hgw (hcs k hk)) hv hcv).mono ?_
  rintro e w' ⟨rfl, rfl⟩
  go_wp2
  go_ret2
  exact ⟨rfl, (Below.refl _ _).alloc (Nat.le_refl _) _⟩

set_option maxHeartbeats 400000 in
theorem zz_short (len cap : Nat) (g f : Nat) (i : Int) (w : World) (hlen : len ≤ 2000000) (h0 : 0 ≤ i) (hi : i ≤ 2000000) (h : (len : Int) < i + 6) :
    Calls Try.prog 7 #[.slice (some ⟨g, f, none⟩) len cap, .int .i64 0, .slice none 0 0, .int .u8 0, .slice none 0 0, .int .i64 i] w fun e w' => e = .returned (.tuple #[.int .i32 0, .bool false]) ∧ Below w.heap.size w w' := by
  go_enter Try.func7, Try.ntmps7
  go_wp2_with fail
  refine (hex_short w.heap.size 0 len cap _ i _ (by simp; rfl) hlen h0 hi h).mono ?_
  rintro e w' ⟨rfl, rfl⟩
  go_wp2
  go_ret2
  exact ⟨rfl, (Below.refl _ _).alloc (Nat.le_refl _) _⟩

set_option maxHeartbeats 400000 in
theorem zz_no (len cap : Nat) (g f : Nat) (i : Nat) (w : World) (hgw : g < w.heap.size) (hlen : len ≤ 2000000) (h : (i : Int) + 6 ≤ len) (c : Int)
    (hci : w.cell? ⟨g, f + i, none⟩ = some (.int .u8 c)) (hne : (c != 92) = true) :
    Calls Try.prog 7 #[.slice (some ⟨g, f, none⟩) len cap, .int .i64 0, .slice none 0 0, .int .u8 0, .slice none 0 0, .int .i64 i] w fun e w' => e = .returned (.tuple #[.int .i32 0, .bool false]) ∧ Below w.heap.size w w' := by
  go_enter Try.func7, Try.ntmps7
  go_wp2_with fail
  refine (hex_no w.heap.size 0 len cap g f i c _ (by simp) hlen h (cell_past hgw hci) hne).mono ?_
  rintro e w' ⟨rfl, rfl⟩
  go_wp2
  go_ret2
  exact ⟨rfl, (Below.refl _ _).alloc (Nat.le_refl _) _⟩
end Go.Proofs.Qxb6603893a
