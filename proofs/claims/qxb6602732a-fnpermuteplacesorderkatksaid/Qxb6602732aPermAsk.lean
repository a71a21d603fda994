/-
  WALKS: 'isPermutationPrefix' (21).
-/
import Derived.Test.Qxb6602732aCloneWalks
import Derived.Test.Qxb6602732aPermPlain
namespace Go.Proofs.Qxb6602732a
open Go.RowKit

/-- The answer is a bool; if it is true, the order is a permutation. -/
def PermAns (o : Nat → Nat) (n : Nat) (e : Ending) : Prop := ∃ r, e = .returned (.bool r) ∧ (r = true → IsPerm o n)
theorem permAns_no (o : Nat → Nat) (n : Nat) : PermAns o n (.returned (.bool false)) := ⟨false, rfl, fun h => by cases h⟩
theorem permAns_yes {o : Nat → Nat} {n : Nat} (h : IsPerm o n) : PermAns o n (.returned (.bool true)) := ⟨true, rfl, fun _ => h⟩

/-- 'seen' (block B) after k places. -/
def SeenAt (wr : World) (B n k : Nat) (o : Nat → Nat) : Prop :=
  (∀ v, v < 64 → wr.frozen? ⟨B, v, none⟩ = false) ∧ (∀ v, v < 64 → ∃ b, wr.cell? ⟨B, v, none⟩ = some (.bool b) ∧ (b = true ↔ ∃ j, j < k ∧ o j = v)) ∧
  (∀ j, j < k → o j < n) ∧ ∀ i j, i < k → j < k → o i = o j → i = j

theorem seen_step {wr : World} {B n k : Nat} {o : Nat → Nat} (h : SeenAt wr B n k o) (hv : o k < n) (hf : ¬ ∃ j, j < k ∧ o j = o k) : SeenAt (wr.setCell ⟨B, o k, none⟩ (.bool true)) B n (k + 1) o := by
  obtain ⟨h1, h2, h3, h4⟩ := h
  refine ⟨fun v hv' => by rw [World.frozen?_setCell]; exact h1 v hv', fun v hv' => ?_, fun j hj => ?_, fun i j hi hj e => ?_⟩
  · obtain ⟨b, hb, hbi⟩ := h2 v hv'
    by_cases e : v = o k
    · subst e
      exact ⟨true, World.cell?_setCell_same (u := .bool b) _ _ _ hb, by simp; exact ⟨k, by omega, rfl⟩⟩
    · refine ⟨b, ?_, ?_⟩
      · rw [World.cell?_setCell_other]
        · exact hb
        · intro h; injection h with _ h; exact e h.symm
      · rw [hbi]
        constructor
        · rintro ⟨j, hj, rfl⟩; exact ⟨j, by omega, rfl⟩
        · rintro ⟨j, hj, rfl⟩
          by_cases ej : j = k
          · subst ej; exact absurd rfl e
          · exact ⟨j, by omega, rfl⟩
  · by_cases ej : j = k
    · subst ej; exact hv
    · exact h3 j (by omega)
  · by_cases ei : i = k
    · by_cases ej : j = k
      · omega
      · subst ei; exact absurd ⟨j, by omega, e.symm⟩ hf
    · by_cases ej : j = k
      · subst ej; exact absurd ⟨i, by omega, e⟩ hf
      · exact h4 i j (by omega) (by omega) e

theorem seen_start (w : World) (C : Array Value) (t : TypeId) (n : Nat) (o : Nat → Nat) (hC : C = Array.replicate 64 (.bool false)) : SeenAt (w.alloc (.cells C t)) w.heap.size n 0 o := by
  have hh : (w.alloc (.cells C t)).heap[w.heap.size]? = some (.cells C t) := heap_new w _
  refine ⟨fun v _ => ?_, fun v hv => ⟨false, ?_, by simp⟩, fun j hj => by omega, fun i j hi _ _ => by omega⟩
  · simp only [World.frozen?]
    rw [hh]
    simp
  · simp only [World.cell?]
    rw [hh, hC]
    simp [hv]

set_option maxHeartbeats 1000000 in
theorem ask_any (b off m c n : Nat) (o : Nat → Nat) (w : World) (hn : n ≤ 64) (hm : n ≤ m) (hm2 : m ≤ 1048576) (hr : ∀ i, i < n → o i ≤ 255) (ho : ∀ i, i < n → w.cell? ⟨b, off + i, none⟩ = some (.int .u8 (o i : Nat))) :
    Calls Try.prog 21 #[.slice (some ⟨b, off, none⟩) m c, .int .i64 n] w fun e w' => PermAns o n e ∧ Below w.heap.size w w' := by
  have HO : Hid (∀ i, i < n → o i ≤ 255 ∧ w.cell? ⟨b, off + i, none⟩ = some (.int .u8 (o i : Nat))) := fun i hi => ⟨hr i hi, ho i hi⟩
  clear hr ho
  go_enter Try.func21, Try.ntmps21
  go_wp2
  go_loopw [6] (fun i wr => ∃ k : Nat, k ≤ n ∧ i = .int .i64 k ∧ Hid (Below w.heap.size w wr ∧ SeenAt wr w.heap.size n k o)) (fun i _ => n - (intOf i).toNat)
  case atStart => exact ⟨0, Nat.zero_le _, rfl, (Below.refl _ _).alloc (Nat.le_refl _) _, seen_start w _ _ n o rfl⟩
  case round =>
    obtain ⟨k, hk, rfl, hrel⟩ := hrel
    by_cases hlt : k < n
    · obtain ⟨hv, c0⟩ := HO.out k hlt
      have c1 : wr.cell? ⟨b, off + k, none⟩ = some (.int .u8 (o k : Nat)) := by
        rw [hrel.out.1.cell (p := ⟨b, off + k, none⟩) (World.block_lt_of_cell? _ _ c0)]; exact c0
      clear c0
      by_cases hov : o k < n
      · obtain ⟨bb, c2, hbb⟩ := hrel.out.2.2.1 (o k) (by omega)
        have f2 := hrel.out.2.1 (o k) (by omega)
        have hov' : ¬ (n : Int) ≤ (o k : Int) := by omega
        have hov2 : (o k : Int) < 64 := by omega
        cases bb
        · have HS : Hid (Below w.heap.size w (wr.setCell ⟨w.heap.size, o k, none⟩ (.bool true)) ∧ SeenAt (wr.setCell ⟨w.heap.size, o k, none⟩ (.bool true)) w.heap.size n (k + 1) o) :=
            ⟨hrel.out.1.setCell (p := ⟨w.heap.size, o k, none⟩) (Nat.le_refl _) _, seen_step hrel.out.2 hov (by simpa using hbb)⟩
          clear hbb hrel
          go_wp2
          go_roundw
          case rel => exact ⟨k + 1, by omega, by go_num, HS⟩
          case measure => simp [intOf]; omega
        · clear hbb
          go_wp2
          go_ret
          exact ⟨permAns_no _ _, hrel.out.1⟩
      · have hov' : (n : Int) ≤ (o k : Int) := by omega
        go_wp2
        go_ret
        exact ⟨permAns_no _ _, hrel.out.1⟩
    · obtain rfl : k = n := by omega
      go_wp2
      go_ret
      exact ⟨permAns_yes ⟨hrel.out.2.2.2.1, hrel.out.2.2.2.2⟩, hrel.out.1⟩

theorem ask_zero (a : Option Addr) (m c : Nat) (o : Nat → Nat) (w : World) :
    Calls Try.prog 21 #[.slice a m c, .int .i64 0] w fun e w' => PermAns o 0 e ∧ Below w.heap.size w w' := by
  go_enter Try.func21, Try.ntmps21
  go_wp2
  refine wp_loop_rounds 1 ?_; rw [rounds_succ]
  go_wp2
  go_ret
  exact ⟨permAns_yes ⟨fun k hk => by omega, fun i j hi => by omega⟩, (Below.refl _ _).alloc (Nat.le_refl _) _⟩

theorem ask_short (a : Option Addr) (m c n : Nat) (w : World) (hn : n ≤ 64) (hm : m < n) :
    Calls Try.prog 21 #[.slice a m c, .int .i64 n] w fun e w' => e = .returned (.bool false) ∧ w = w' := by
  go_enter Try.func21, Try.ntmps21
  go_wp2
  go_ret
  exact ⟨rfl, rfl⟩

end Go.Proofs.Qxb6602732a
