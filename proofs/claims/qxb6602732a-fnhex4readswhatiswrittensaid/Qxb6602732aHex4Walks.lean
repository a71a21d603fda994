/-
  WALKS: 'isDigit' (28), 'hexDigitOf' (11), '(*jsonParser).hex4' (25), 'ZZHex4' (12).
-/
import Derived.Test.Qxb6602732aCloneWalks
import Derived.Test.Qxb6602732aHex4Plain
import Derived.Deep.QuietTactic
import Derived.BigQuiet
namespace Go.Proofs.Qxb6602732a
open Go.RowKit

theorem hexDigit_any (d : Int) (up : Bool) (w : World) (h0 : 0 ≤ d) (h1 : d ≤ 15) :
    Calls Try.prog 11 #[.int .u8 d, .bool up] w fun e w' => ∃ y, e = .returned (.int .u8 y) ∧ HexOf y d ∧ w = w' := by
  by_cases h : d < 10
  · go_enter Try.func11, Try.ntmps11
    go_wp2
    go_ret
    exact ⟨48 + d, rfl, ⟨h0, h1, .inl ⟨by omega, rfl⟩⟩, rfl⟩
  · cases up
    · go_enter Try.func11, Try.ntmps11
      go_wp2
      go_ret
      exact ⟨_, rfl, ⟨h0, h1, .inr ⟨by omega, .inr (by omega)⟩⟩, rfl⟩
    · go_enter Try.func11, Try.ntmps11
      go_wp2
      go_ret
      exact ⟨_, rfl, ⟨h0, h1, .inr ⟨by omega, .inl (by omega)⟩⟩, rfl⟩

set_option maxHeartbeats 1000000 in
theorem hex4_any (p g pos n c : Nat) (y d : Nat → Int) (w : World) (hn : n ≤ 2097152) (hc : n ≤ c) (hp : pos + 5 ≤ n)
    (c0 : w.cell? ⟨p, 0, none⟩ = some (.slice (some ⟨g, 0, none⟩) n c)) (c1 : w.cell? ⟨p, 1, none⟩ = some (.int .i64 pos)) (f1 : w.frozen? ⟨p, 1, none⟩ = false)
    (cu : w.cell? ⟨g, pos, none⟩ = some (.int .u8 117)) (hy : ∀ j, j < 4 → w.cell? ⟨g, pos + 1 + j, none⟩ = some (.int .u8 (y j)) ∧ HexOf (y j) (d j)) :
    Calls Try.prog 25 #[.pointer (some ⟨p, 0, none⟩)] w fun e w' => e = .returned (.tuple #[.int .i32 (acc d 4), .bool true]) ∧ Below p w w' ∧ w'.cell? ⟨p, 1, none⟩ = some (.int .i64 (pos + 5 : Nat)) := by
  have HY : Hid (∀ j, j < 4 → w.cell? ⟨g, pos + 1 + j, none⟩ = some (.int .u8 (y j)) ∧ HexOf (y j) (d j)) := hy
  clear hy
  have hd : decide ((n : Int) < (pos : Int) + 5) = false := decide_eq_false (by omega)
  have hp' : (pos : Int) < (n : Int) := by omega
  go_enter Try.func25, Try.ntmps25
  go_wp2
  go_quiet (fail)
  go_wp2
  go_quiet (fail)
  go_wp2
  go_loop [4, 48] (fun r i => ∃ k : Nat, k ≤ 4 ∧ i = .int .i64 k ∧ r = .int .i32 (acc d k)) (fun _ i => 4 - (intOf i).toNat)
  case atStart => exact ⟨0, Nat.zero_le _, rfl, rfl⟩
  case round =>
    obtain ⟨k, hk, rfl, rfl⟩ := hrel
    by_cases hlt : k < 4
    · obtain ⟨cy, d0, d1, hy⟩ := HY.out k hlt
      have ha := acc_bd (fun j hj => ⟨(HY.out j hj).2.1, (HY.out j hj).2.2.1⟩) k hlt
      obtain ⟨a0, a1⟩ := ha
      have HS : Hid (acc d (k + 1) = acc d k * 16 + d k) := rfl
      rcases hy with ⟨h9, hy⟩ | ⟨h10, hy | hy⟩
      · rw [hy] at cy
        clear hy
        generalize d k = D at cy d0 d1 h9 HS
        generalize acc d k = A at a0 a1 HS
        go_wp2
        go_round
        case rel => exact ⟨_, _, _, _, _, _, ⟨k + 1, by omega, by go_num, rfl⟩, rfl, rfl, by rw [show 48 + D - 48 = D by omega, or16 A D a0 a1 d0 d1, HS.out], rfl, rfl, rfl⟩
        case measure => simp [intOf]; omega
      · rw [hy] at cy
        clear hy
        generalize d k = D at cy d0 d1 h10 HS
        generalize acc d k = A at a0 a1 HS
        have e1 : ¬ 55 + D ≤ 57 := by omega
        have e2 : ¬ 97 ≤ 55 + D := by omega
        go_wp2
        go_round
        case rel => exact ⟨_, _, _, _, _, _, ⟨k + 1, by omega, by go_num, rfl⟩, rfl, rfl, by rw [show 55 + D - 65 + 10 = D by omega, or16 A D a0 a1 d0 d1, HS.out], rfl, rfl, rfl⟩
        case measure => simp [intOf]; omega
      · rw [hy] at cy
        clear hy
        generalize d k = D at cy d0 d1 h10 HS
        generalize acc d k = A at a0 a1 HS
        have e1 : ¬ 87 + D ≤ 57 := by omega
        go_wp2
        go_round
        case rel => exact ⟨_, _, _, _, _, _, ⟨k + 1, by omega, by go_num, rfl⟩, rfl, rfl, by rw [show 87 + D - 97 + 10 = D by omega, or16 A D a0 a1 d0 d1, HS.out], rfl, rfl, rfl⟩
        case measure => simp [intOf]; omega
    · obtain rfl : k = 4 := by omega
      go_wp2
      go_ret2
      exact ⟨rfl, Below.setCell (p := ⟨p, 1, none⟩) (below_drewN (Below.refl _ _) _) (Nat.le_refl _) _, World.cell?_setCell_same (u := .int .i64 pos) _ _ _ c1⟩

theorem frozen_new (w : World) (cs : Array Value) (t : TypeId) (j : Nat) : (w.alloc (.cells cs t)).frozen? ⟨w.heap.size, j, none⟩ = false := by
  simp only [World.frozen?]
  rw [heap_new w]
  simp

set_option maxHeartbeats 1000000 in
theorem zzhex4_any (g pos n c : Nat) (y d : Nat → Int) (w : World) (hn : n ≤ 2097152) (hc : n ≤ c) (hp : pos + 5 ≤ n)
    (cu : w.cell? ⟨g, pos, none⟩ = some (.int .u8 117)) (hy : ∀ j, j < 4 → w.cell? ⟨g, pos + 1 + j, none⟩ = some (.int .u8 (y j)) ∧ HexOf (y j) (d j)) :
    Calls Try.prog 12 #[.slice (some ⟨g, 0, none⟩) n c, .int .i64 pos] w fun e w' => e = .returned (.tuple #[.int .i32 (acc d 4), .bool true, .int .i64 ((pos : Int) + 5)]) ∧ Below w.heap.size w w' := by
  have hg : g < w.heap.size := World.block_lt_of_cell? _ _ cu
  have H := hex4_any w.heap.size g pos n c y d (w.alloc (.cells #[.slice (some ⟨g, 0, none⟩) n c, .int .i64 pos] 43)) hn hc hp (by simp) (by simp) (frozen_new _ _ _ _) (by rw [World.cell?_alloc_past _ _ _ hg]; exact cu)
    (fun j hj => ⟨by rw [World.cell?_alloc_past _ _ _ hg]; exact (hy j hj).1, (hy j hj).2⟩)
  have HH := (show Hid (Calls Try.prog 25 #[.pointer (some ⟨w.heap.size, 0, none⟩)] (w.alloc (.cells #[.slice (some ⟨g, 0, none⟩) n c, .int .i64 pos] 43)) _) from H)
  clear H cu hy
  go_enter Try.func12, Try.ntmps12
  go_wp2_with (go_at_call 25; refine (HH.out).mono ?_; rintro e w1 ⟨rfl, hb, hc1⟩)
  go_quiet (fail)
  go_wp2
  go_ret3
  exact ⟨rfl, ((Below.refl _ _).alloc (Nat.le_refl _) _).trans (below_drewN hb _)⟩

end Go.Proofs.Qxb6602732a
