/-
  WALKS: 'isSchemeByte' (29), 'isASCIILetter' (15).
-/
import Derived.Test.Qxb6602732aCloneWalks
import Derived.Test.Qxb6602732aOpqPlain
namespace Go.Proofs.Qxb6602732a
open Go.RowKit

theorem retb {a b : Bool} (h : a = b) : Ending.returned (.bool a) = .returned (.bool b) := by rw [h]

theorem letter15_any (c : Int) (w : World) : Calls Try.prog 15 #[.int .u8 c] w fun e w' => e = .returned (.bool (letterB c)) ∧ w = w' := by
  by_cases h1 : 97 ≤ c
  · by_cases h2 : c ≤ 122
    · rw [letter_yes (.inl ⟨h1, h2⟩)]
      go_enter Try.func15, Try.ntmps15
      go_wp2
      go_ret
      exact ⟨retb (by first | rfl | (simp; omega)), rfl⟩
    · rw [letter_no (by omega)]
      go_enter Try.func15, Try.ntmps15
      go_wp2
      go_ret
      exact ⟨retb (by first | rfl | (simp; omega)), rfl⟩
  · by_cases h2 : 65 ≤ c
    · by_cases h3 : c ≤ 90
      · rw [letter_yes (.inr ⟨h2, h3⟩)]
        go_enter Try.func15, Try.ntmps15
        go_wp2
        go_ret
        exact ⟨retb (by first | rfl | (simp; omega)), rfl⟩
      · rw [letter_no (by omega)]
        go_enter Try.func15, Try.ntmps15
        go_wp2
        go_ret
        exact ⟨retb (by first | rfl | (simp; omega)), rfl⟩
    · rw [letter_no (by omega)]
      go_enter Try.func15, Try.ntmps15
      go_wp2
      go_ret
      exact ⟨retb (by first | rfl | (simp; omega)), rfl⟩

set_option maxHeartbeats 2000000 in
theorem scheme29_any (c : Int) (f : Bool) (w : World) : Calls Try.prog 29 #[.int .u8 c, .bool f] w fun e w' => e = .returned (.bool (schB c f)) ∧ w = w' := by
  have hcases : (97 ≤ c ∧ c ≤ 122) ∨ (65 ≤ c ∧ c ≤ 90) ∨ 122 < c ∨ (90 < c ∧ c < 97) ∨ (57 < c ∧ c < 65) ∨ (48 ≤ c ∧ c ≤ 57) ∨ c = 47 ∨ c = 46 ∨ c = 45 ∨ c = 44 ∨ c = 43 ∨ c < 43 := by omega
  cases f
  · show Calls _ _ _ _ fun e w' => e = .returned (.bool (schemeB c)) ∧ w = w'
    rcases hcases with ⟨h1, h2⟩ | ⟨h1, h2⟩ | h1 | ⟨h1, h2⟩ | ⟨h1, h2⟩ | ⟨h1, h2⟩ | rfl | rfl | rfl | rfl | rfl | h1
    all_goals first | rw [scheme_yes (by omega)] | rw [scheme_no (by omega)]
    all_goals
      go_enter Try.func29, Try.ntmps29
      go_wp2
      go_ret
      exact ⟨retb (by first | rfl | (simp; omega)), rfl⟩
  · show Calls _ _ _ _ fun e w' => e = .returned (.bool (letterB c)) ∧ w = w'
    rcases hcases with ⟨h1, h2⟩ | ⟨h1, h2⟩ | h1 | ⟨h1, h2⟩ | ⟨h1, h2⟩ | ⟨h1, h2⟩ | rfl | rfl | rfl | rfl | rfl | h1
    all_goals first | rw [letter_yes (by omega)] | rw [letter_no (by omega)]
    all_goals
      go_enter Try.func29, Try.ntmps29
      go_wp2
      go_ret
      exact ⟨retb (by first | rfl | (simp; omega)), rfl⟩

end Go.Proofs.Qxb6602732a
