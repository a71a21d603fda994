/-
  PLAIN FUNCTIONS for the hex laws: no Go in sight.
-/
import Derived.WalkKit
namespace Go.Proofs.Qxb6602658a
open Go.RowKit

/-- Does p hold at k, k+1, .., k+m-1? -/
def allFrom (p : Nat → Bool) : Nat → Nat → Bool
  | _, 0 => true
  | k, m + 1 => p k && allFrom p (k + 1) m

theorem allFrom_yes {p : Nat → Bool} {k n : Nat} (hk : k < n) (h : p k = true) : allFrom p k (n - k) = allFrom p (k + 1) (n - (k + 1)) := by
  obtain ⟨m, hm⟩ : ∃ m, n - k = m + 1 := ⟨n - k - 1, by omega⟩
  rw [hm, show n - (k + 1) = m by omega]; simp [allFrom, h]
theorem allFrom_no {p : Nat → Bool} {k n : Nat} (hk : k < n) (h : p k = false) : allFrom p k (n - k) = false := by
  obtain ⟨m, hm⟩ : ∃ m, n - k = m + 1 := ⟨n - k - 1, by omega⟩
  rw [hm]; simp [allFrom, h]
theorem allFrom_end {p : Nat → Bool} {k n : Nat} (hk : n ≤ k) : allFrom p k (n - k) = true := by
  rw [show n - k = 0 by omega]; rfl
theorem allFrom_iff {p : Nat → Bool} : ∀ (m k : Nat), allFrom p k m = true ↔ ∀ j, k ≤ j → j < k + m → p j = true := by
  intro m
  induction m with
  | zero => intro k; simp [allFrom]; intro j h1 h2; omega
  | succ m ih =>
    intro k
    simp only [allFrom, Bool.and_eq_true, ih]
    constructor
    · rintro ⟨h1, h2⟩ j hj hj'
      by_cases e : j = k
      · subst e; exact h1
      · exact h2 j (by omega) (by omega)
    · intro h
      exact ⟨h k (Nat.le_refl _) (by omega), fun j h1 h2 => h j (by omega) (by omega)⟩
theorem allFrom_congr {p q : Nat → Bool} {n : Nat} (h : ∀ j, j < n → p j = q j) : allFrom p 0 n = allFrom q 0 n := by
  rw [Bool.eq_iff_iff, allFrom_iff, allFrom_iff]
  constructor
  · intro hp j h1 h2; rw [← h j (by omega)]; exact hp j h1 h2
  · intro hp j h1 h2; rw [h j (by omega)]; exact hp j h1 h2

/-- Byte j of s. -/
def bt (s : ByteArray) (j : Nat) : Int := ((s.data.toList.getD j 0).toNat : Int)
theorem bt_lo (s : ByteArray) (j : Nat) : 0 ≤ bt s j := by unfold bt; omega
theorem bt_hi (s : ByteArray) (j : Nat) : bt s j ≤ 255 := by
  unfold bt
  have := UInt8.toNat_lt (s.data.toList.getD j 0)
  omega

/-- A lower-case hex digit. -/
def hexB (n : Int) : Bool := decide ((48 ≤ n ∧ n ≤ 57) ∨ (97 ≤ n ∧ n ≤ 102))
theorem hexB_yes {n : Int} (h : (48 ≤ n ∧ n ≤ 57) ∨ (97 ≤ n ∧ n ≤ 102)) : hexB n = true := by simp [hexB, h]
theorem hexB_no {n : Int} (h : ¬ ((48 ≤ n ∧ n ≤ 57) ∨ (97 ≤ n ∧ n ≤ 102))) : hexB n = false := by simp [hexB, h]

/-- Are all bytes of s lower-case hex digits? -/
def allHex (s : ByteArray) : Bool := allFrom (fun j => hexB (bt s j)) 0 s.size

end Go.Proofs.Qxb6602658a
