/-
  PLAIN LAWS for hex4: no Go in sight.
-/
import Derived.WalkKit
namespace Go.Proofs.Qxb6602732a
open Go.RowKit

theorem ofInt32 (a : Nat) (ha : a < 4294967296) : (BitVec.ofInt 32 (a : Int)).toNat = a := by
  rw [BitVec.ofInt_natCast, BitVec.toNat_ofNat]; exact Nat.mod_eq_of_lt (by omega)

theorem or16_nat (a b : Nat) (ha : a ≤ 4095) (hb : b ≤ 15) : bits .or .i32 ((a : Int) * 16) (b : Int) = (a : Int) * 16 + b := by
  have e : ((a : Int) * 16) = ((a * 16 : Nat) : Int) := by omega
  have h16 : a * 16 ||| b = a * 16 + b := by
    have := Nat.shiftLeft_add_eq_or_of_lt (i := 4) (b := b) (by omega) a
    rw [Nat.shiftLeft_eq] at this
    simpa using this.symm
  rw [e]
  show IntKind.i32.wrap ((BitVec.ofInt 32 ((a * 16 : Nat) : Int) ||| BitVec.ofInt 32 (b : Int)).toNat : Int) = _
  rw [BitVec.toNat_or, ofInt32 (a * 16) (by omega), ofInt32 b (by omega), h16]
  simp [IntKind.wrap, IntKind.bits, IntKind.signed]
  omega

/-- 'r<<4 | d' on runes. -/
theorem or16 (A D : Int) (a0 : 0 ≤ A) (a1 : A ≤ 4095) (d0 : 0 ≤ D) (d1 : D ≤ 15) : bits .or .i32 (A * 16) D = A * 16 + D := by
  obtain ⟨a, rfl⟩ := Int.eq_ofNat_of_zero_le a0
  obtain ⟨b, rfl⟩ := Int.eq_ofNat_of_zero_le d0
  exact or16_nat a b (by omega) (by omega)

/-- y is the (lower- or upper-case) hex digit of d. -/
def HexOf (y d : Int) : Prop := 0 ≤ d ∧ d ≤ 15 ∧ ((d ≤ 9 ∧ y = 48 + d) ∨ (10 ≤ d ∧ (y = 55 + d ∨ y = 87 + d)))

/-- What hex4 has gathered after k digits. -/
def acc (d : Nat → Int) : Nat → Int
  | 0 => 0
  | k + 1 => acc d k * 16 + d k
theorem acc_bd {d : Nat → Int} (hd : ∀ j, j < 4 → 0 ≤ d j ∧ d j ≤ 15) : ∀ k, k < 4 → 0 ≤ acc d k ∧ acc d k ≤ 4095 := by
  have h0 := hd 0 (by omega)
  have h1 := hd 1 (by omega)
  have h2 := hd 2 (by omega)
  intro k hk
  match k, hk with
  | 0, _ => simp [acc]
  | 1, _ => simp [acc]; omega
  | 2, _ => simp [acc]; omega
  | 3, _ => simp [acc]; omega

/-- The digit that the law writes at place k. -/
def digit (r : Int) (k : Nat) : Int := match k with
  | 0 => r / 4096 % 16
  | 1 => r / 256 % 16
  | 2 => r / 16 % 16
  | _ => r % 16
theorem digit_lo (r : Int) (k : Nat) : 0 ≤ digit r k := by unfold digit; split <;> omega
theorem digit_hi (r : Int) (k : Nat) : digit r k ≤ 15 := by unfold digit; split <;> omega
theorem acc_digits (r : Int) (h0 : 0 ≤ r) (h1 : r ≤ 65535) : acc (digit r) 4 = r := by
  simp only [acc, digit]
  omega

end Go.Proofs.Qxb6602732a
