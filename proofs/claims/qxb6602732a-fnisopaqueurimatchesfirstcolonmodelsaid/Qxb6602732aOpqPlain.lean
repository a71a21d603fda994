/-
  PLAIN LAWS for isOpaqueURI: no Go in sight.
-/
import Derived.WalkKit
namespace Go.Proofs.Qxb6602732a

def letterB (c : Int) : Bool := decide ((97 ≤ c ∧ c ≤ 122) ∨ (65 ≤ c ∧ c ≤ 90))
def schemeB (c : Int) : Bool := decide ((97 ≤ c ∧ c ≤ 122) ∨ (65 ≤ c ∧ c ≤ 90) ∨ (48 ≤ c ∧ c ≤ 57) ∨ c = 43 ∨ c = 45 ∨ c = 46)
/-- May c stand in a scheme, first or not? -/
def schB (c : Int) (first : Bool) : Bool := if first = true then letterB c else schemeB c
def badB (c : Int) : Bool := decide (c ≤ 31 ∨ c = 127 ∨ c = 37)
def okB (z : Nat → Int) (j : Nat) : Bool := schB (z j) (decide (j = 0))

theorem letter_yes {c : Int} (h : (97 ≤ c ∧ c ≤ 122) ∨ (65 ≤ c ∧ c ≤ 90)) : letterB c = true := by simp [letterB, h]
theorem letter_no {c : Int} (h : ¬ ((97 ≤ c ∧ c ≤ 122) ∨ (65 ≤ c ∧ c ≤ 90))) : letterB c = false := by simp [letterB, h]
theorem scheme_yes {c : Int} (h : (97 ≤ c ∧ c ≤ 122) ∨ (65 ≤ c ∧ c ≤ 90) ∨ (48 ≤ c ∧ c ≤ 57) ∨ c = 43 ∨ c = 45 ∨ c = 46) : schemeB c = true := by simp [schemeB, h]
theorem scheme_no {c : Int} (h : ¬ ((97 ≤ c ∧ c ≤ 122) ∨ (65 ≤ c ∧ c ≤ 90) ∨ (48 ≤ c ∧ c ≤ 57) ∨ c = 43 ∨ c = 45 ∨ c = 46)) : schemeB c = false := by simp only [schemeB, h, decide_false]
theorem bad_yes {c : Int} (h : c ≤ 31 ∨ c = 127 ∨ c = 37) : badB c = true := by simp [badB, h]
theorem bad_no {c : Int} (h : ¬ (c ≤ 31 ∨ c = 127 ∨ c = 37)) : badB c = false := by simp only [badB, h, decide_false]
theorem bad_iff {c : Int} : badB c = true ↔ c ≤ 31 ∨ c = 127 ∨ c = 37 := by simp [badB]
theorem letter_scheme {c : Int} (h : letterB c = true) : schemeB c = true := by
  have := of_decide_eq_true h
  exact scheme_yes (by omega)
theorem sch58 {c : Int} {f : Bool} (h : schB c f = true) : c ≠ 58 := by
  rintro rfl
  cases f <;> simp [schB, letterB, schemeB] at h

/-- WHAT isOpaqueURI ASKS: a colon at some s ≥ 1; a scheme before it; behind it no '/' first, and nothing bad. -/
def Opq (z : Nat → Int) (n : Nat) : Prop :=
  ∃ s, 1 ≤ s ∧ s < n ∧ (∀ j, j < s → okB z j = true) ∧ z s = 58 ∧ ¬ (s + 1 < n ∧ z (s + 1) = 47) ∧ ∀ j, s < j → j < n → badB (z j) = false

/-- The scheme's bytes end at k. -/
theorem opq_scheme {z : Nat → Int} {n k s : Nat} (hk : ∀ j, j < k → okB z j = true) (hn : k < n → okB z k = false) (h2 : s < n) (h3 : ∀ j, j < s → okB z j = true) (h4 : z s = 58) : s = k := by
  rcases Nat.lt_trichotomy s k with h | h | h
  · exact absurd h4 (sch58 (hk s h))
  · exact h
  · have := h3 k h
    rw [hn (by omega)] at this
    cases this

/-- .. not there, or at place 0, or at the end, or at another byte than ':'. -/
theorem opq_no_scheme {z : Nat → Int} {n k : Nat} (hk : ∀ j, j < k → okB z j = true) (hn : k < n → okB z k = false) (h : k = 0 ∨ n ≤ k ∨ z k ≠ 58) : ¬ Opq z n := by
  rintro ⟨s, h1, h2, h3, h4, _⟩
  have := opq_scheme hk hn h2 h3 h4
  subst this
  rcases h with h | h | h
  · omega
  · omega
  · exact h h4
/-- .. with '/' behind the colon. -/
theorem opq_no_slash {z : Nat → Int} {n k : Nat} (hk : ∀ j, j < k → okB z j = true) (hn : k < n → okB z k = false) (h1 : k + 1 < n) (h : z (k + 1) = 47) : ¬ Opq z n := by
  rintro ⟨s, _, h2, h3, h4, h5, _⟩
  have := opq_scheme hk hn h2 h3 h4
  subst this
  exact h5 ⟨h1, h⟩
/-- .. with a bad byte behind the colon. -/
theorem opq_no_bad {z : Nat → Int} {n k j : Nat} (hk : ∀ j, j < k → okB z j = true) (hn : k < n → okB z k = false) (h1 : k < j) (h2 : j < n) (h : badB (z j) = true) : ¬ Opq z n := by
  rintro ⟨s, _, h2', h3, h4, _, h6⟩
  have := opq_scheme hk hn h2' h3 h4
  subst this
  rw [h6 j h1 h2] at h
  cases h

/-- Where the first colon stands at k, a scheme can only end there. -/
theorem opq_colon {z : Nat → Int} {k s : Nat} (hc : z k = 58) (hf : ∀ j, j < k → z j ≠ 58) (h3 : ∀ j, j < s → okB z j = true) (h4 : z s = 58) : s = k := by
  rcases Nat.lt_trichotomy s k with h | h | h
  · exact absurd h4 (hf s h)
  · exact h
  · exact absurd hc (sch58 (h3 k h))
theorem opq_colon_iff {z : Nat → Int} {n k : Nat} (hkn : k < n) (hc : z k = 58) (hf : ∀ j, j < k → z j ≠ 58) :
    Opq z n ↔ 1 ≤ k ∧ (∀ j, j < k → okB z j = true) ∧ ¬ (k + 1 < n ∧ z (k + 1) = 47) ∧ ∀ j, k < j → j < n → badB (z j) = false := by
  constructor
  · rintro ⟨s, h1, h2, h3, h4, h5, h6⟩
    have := opq_colon hc hf h3 h4
    subst this
    exact ⟨h1, h3, h5, h6⟩
  · rintro ⟨h1, h3, h5, h6⟩
    exact ⟨k, h1, hkn, h3, hc, h5, h6⟩
theorem opq_no_colon {z : Nat → Int} {n : Nat} (hf : ∀ j, j < n → z j ≠ 58) : ¬ Opq z n := by
  rintro ⟨s, _, h2, _, h4, _⟩
  exact hf s h2 h4

end Go.Proofs.Qxb6602732a
