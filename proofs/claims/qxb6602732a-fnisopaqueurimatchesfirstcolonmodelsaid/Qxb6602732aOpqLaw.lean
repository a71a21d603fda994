/-
  WALKS: the law 'FnIsOpaqueURIMatchesFirstColonModel' (4) and its bound (13).
-/
import Derived.Test.Qxb6602732aOpqWalks
namespace Go.Proofs.Qxb6602732a
open Go.RowKit

theorem bytes13_ok (a : Option Addr) (n c : Nat) (w : World) (h : n ≤ 1048576) :
    Calls Try.prog 13 #[.slice a n c] w fun e w' => e = .returned (.bool true) ∧ w = w' := by
  go_enter Try.func13, Try.ntmps13
  go_wp2
  go_ret
  exact ⟨rfl, rfl⟩

theorem law4_long (a : Option Addr) (n c : Nat) (w : World) (m : n ≤ maxLen) (h : 1048576 < n) :
    Calls Try.prog 4 #[.slice a n c] w fun e w' => e = .returned (.bool true) ∧ Below w.heap.size w w' := by
  unfold maxLen at m
  go_enter Try.func4, Try.ntmps4
  go_wp2
  go_ret
  exact ⟨rfl, Below.refl _ _⟩

theorem ans_no {r : Bool} {z : Nat → Int} {n : Nat} (h : r = true ↔ Opq z n) (hno : ¬ Opq z n) : (!r) = true := by
  cases r
  · rfl
  · exact absurd (h.1 rfl) hno
theorem ans_yes {r : Bool} {z : Nat → Int} {n : Nat} (h : r = true ↔ Opq z n) (hy : Opq z n) : r = true := h.2 hy

theorem letter_ok (z : Nat → Int) (k : Nat) (X : Bool) (w : World) (h : letterB (z k) = X) : Calls Try.prog 15 #[.int .u8 (z k)] w fun e w' => e = .returned (.bool X) ∧ w = w' := by
  have := letter15_any (z k) w
  rw [h] at this
  exact this

/-- 'want' in the second loop. -/
def Want2 (z : Nat → Int) (n t : Nat) (x : Value) : Prop := (x = .bool true ∧ ∀ j, j < t → okB z j = true) ∨ (x = .bool false ∧ ¬ Opq z n)
/-- 'want' in the third loop. -/
def Want3 (z : Nat → Int) (n k t : Nat) (x : Value) : Prop := (x = .bool true ∧ ∀ j, k < j → j < t → badB (z j) = false) ∨ (x = .bool false ∧ ¬ Opq z n)

set_option maxHeartbeats 2000000 in
theorem law4_any (a : Option Addr) (n c : Nat) (zs : List Int) (w : World) (hn : n ≤ 1048576) (hpos : 0 < n) (hrow : IsRow .u8 w a n c zs) :
    Calls Try.prog 4 #[.slice a n c] w fun e w' => e = .returned (.bool true) ∧ Below w.heap.size w w' := by
  have HR0 : Hid (IsRow .u8 w a n c zs) := hrow
  clear hrow
  go_enter Try.func4, Try.ntmps4
  go_wp2_with (go_at_call 13; refine (bytes13_ok _ _ _ _ hn).mono ?_; rintro e w' ⟨rfl, rfl⟩)
  refine (clone_row a n c zs w (by omega) HR0.out).mono ?_
  rintro e w1 ⟨a', rfl, hb, hcp⟩
  obtain ⟨b, rfl, _, hz⟩ : ∃ b, a' = some ⟨b, 0, none⟩ ∧ b < w1.heap.size ∧ ∀ j, j < n → w1.cell? ⟨b, j, none⟩ = some (.int .u8 (zs.getD j 0)) := by
    rcases hcp with ⟨_, h⟩ | h
    · omega
    · exact h
  have HB : Hid (Below w.heap.size w w1) := hb
  generalize hzz : (fun j => zs.getD j 0) = z at hz
  have HZ : Hid (UriAt w1 b n z) := by subst hzz; exact hz
  clear hb hcp hz hzz HR0
  go_wp2_with fail
  refine (uri14_any b n z w1 hn HZ.out).mono ?_
  rintro e w' ⟨⟨r, rfl, hr⟩, rfl⟩
  have HR : Hid (r = true ↔ Opq z n) := hr
  clear hr
  go_wp2_with fail
  go_loop [4, 5] (fun x i => ∃ k : Nat, k ≤ n ∧ i = .int .i64 k ∧ x = .int .i64 (-1) ∧ Hid (∀ j, j < k → z j ≠ 58)) (fun _ i => n - (intOf i).toNat)
  case atStart => exact ⟨0, Nat.zero_le _, rfl, rfl, fun j hj => by omega⟩
  case round =>
    obtain ⟨k, hk, rfl, rfl, hf⟩ := hrel
    by_cases hlt : k < n
    · have c0 := HZ.out k hlt
      by_cases h58 : z k = 58
      · have h58' : (z k == 58) = true := by simpa using h58
        have H58 : Hid (z k = 58) := h58
        have HI : Hid (Opq z n ↔ 1 ≤ k ∧ (∀ j, j < k → okB z j = true) ∧ ¬ (k + 1 < n ∧ z (k + 1) = 47) ∧ ∀ j, k < j → j < n → badB (z j) = false) := opq_colon_iff hlt h58 hf.out
        clear h58 hf
        by_cases hk0 : k = 0
        · subst hk0
          have hno : Hid (¬ Opq z n) := fun h => by have := (HI.out.1 h).1; omega
          go_wp2
          refine wp_loop_rounds 1 ?_; rw [rounds_succ]
          go_wp2
          refine wp_loop_rounds 1 ?_; rw [rounds_succ]
          go_wp2
          go_ret
          exact ⟨retb (ans_no HR.out hno.out), HB.out⟩
        · have c1 := HZ.out 0 hpos
          cases hl : letterB (z 0)
          · have HL : Hid (letterB (z 0) = false) := hl
            have hno : Hid (¬ Opq z n) := fun h => by
              have := (HI.out.1 h).2.1 0 (by omega)
              simp [okB, schB, hl] at this
            clear hl
            go_wp2_with (go_at_call 15; refine (letter_ok z 0 false _ HL.out).mono ?_; rintro e w' ⟨rfl, rfl⟩)
            refine wp_loop_rounds 1 ?_; rw [rounds_succ]
            go_wp2
            refine wp_loop_rounds 1 ?_; rw [rounds_succ]
            go_wp2
            go_ret
            exact ⟨retb (ans_no HR.out hno.out), HB.out⟩
          · have HL : Hid (letterB (z 0) = true) := hl
            have HK0 : Hid (okB z 0 = true) := by simp [okB, schB, hl, Hid]
            clear hl
            go_wp2_with (go_at_call 15; refine (letter_ok z 0 true _ HL.out).mono ?_; rintro e w' ⟨rfl, rfl⟩)
            go_loop [6, 7] (fun x i => ∃ t : Nat, 1 ≤ t ∧ t ≤ k ∧ i = .int .i64 t ∧ Want2 z n t x) (fun _ i => k - (intOf i).toNat)
            case atStart => exact ⟨1, Nat.le_refl _, by omega, rfl, .inl ⟨rfl, fun j hj => by rw [show j = 0 by omega]; exact HK0.out⟩⟩
            case round =>
              obtain ⟨t, ht1, ht2, rfl, hw⟩ := hrel
              rcases hw with ⟨rfl, hg⟩ | ⟨rfl, hno⟩
              · have HG : Hid (∀ j, j < t → okB z j = true) := hg
                clear hg
                by_cases htl : t < k
                · have c2 := HZ.out t (by omega)
                  have ht0 : decide (t = 0) = false := by simp; omega
                  have HY : schemeB (z t) = true → Hid (∀ j, j < t + 1 → okB z j = true) := fun h j h1 => by
                    by_cases e : j = t
                    · subst e; simpa [okB, schB, ht0] using h
                    · exact HG.out j (by omega)
                  have HN : schemeB (z t) = false → Hid (¬ Opq z n) := fun h hq => by
                    have := (HI.out.1 hq).2.1 t htl
                    simp [okB, schB, ht0, h] at this
                  clear ht0
                  have HC := letter15_any (z t) w1
                  generalize z t = cc at c2 HY HN HC
                  have hcases : (97 ≤ cc ∧ cc ≤ 122) ∨ (65 ≤ cc ∧ cc ≤ 90) ∨ 122 < cc ∨ (90 < cc ∧ cc < 97) ∨ (57 < cc ∧ cc < 65) ∨ (48 ≤ cc ∧ cc ≤ 57) ∨ cc = 47 ∨ cc = 46 ∨ cc = 45 ∨ cc = 44 ∨ cc = 43 ∨ cc < 43 := by omega
                  rcases hcases with h | h | h | h | h | h | h | h | h | h | h | h
                  · have hl : letterB cc = true := letter_yes (by omega)
                    rw [hl] at HC
                    have HC' : Hid (Calls Try.prog 15 #[.int .u8 cc] w1 fun e w' => e = .returned (.bool true) ∧ w1 = w') := HC
                    have HX := HY (scheme_yes (by omega))
                    clear HC hl HY HN
                    clear h
                    go_wp2_with (go_at_call 15; refine (HC'.out).mono ?_; rintro e w' ⟨rfl, rfl⟩)
                    go_round
                    case rel => exact ⟨t + 1, by omega, by omega, by go_num, .inl ⟨rfl, HX.out⟩⟩
                    case measure => simp [intOf]; omega
                  · have hl : letterB cc = true := letter_yes (by omega)
                    rw [hl] at HC
                    have HC' : Hid (Calls Try.prog 15 #[.int .u8 cc] w1 fun e w' => e = .returned (.bool true) ∧ w1 = w') := HC
                    have HX := HY (scheme_yes (by omega))
                    clear HC hl HY HN
                    clear h
                    go_wp2_with (go_at_call 15; refine (HC'.out).mono ?_; rintro e w' ⟨rfl, rfl⟩)
                    go_round
                    case rel => exact ⟨t + 1, by omega, by omega, by go_num, .inl ⟨rfl, HX.out⟩⟩
                    case measure => simp [intOf]; omega
                  · have hl : letterB cc = false := letter_no (by omega)
                    rw [hl] at HC
                    have HC' : Hid (Calls Try.prog 15 #[.int .u8 cc] w1 fun e w' => e = .returned (.bool false) ∧ w1 = w') := HC
                    have HX := HN (scheme_no (by omega))
                    clear HC hl HY HN
                    have e57 : decide (cc ≤ 57) = false := decide_eq_false (by omega)
                    have e43 : (cc == 43) = false := by simp; omega
                    have e45 : (cc == 45) = false := by simp; omega
                    have e46 : (cc == 46) = false := by simp; omega
                    go_wp2_with (go_at_call 15; refine (HC'.out).mono ?_; rintro e w' ⟨rfl, rfl⟩)
                    go_round
                    case rel => exact ⟨t + 1, by omega, by omega, by go_num, .inr ⟨rfl, HX.out⟩⟩
                    case measure => simp [intOf]; omega
                  · have hl : letterB cc = false := letter_no (by omega)
                    rw [hl] at HC
                    have HC' : Hid (Calls Try.prog 15 #[.int .u8 cc] w1 fun e w' => e = .returned (.bool false) ∧ w1 = w') := HC
                    have HX := HN (scheme_no (by omega))
                    clear HC hl HY HN
                    obtain ⟨h1, h2⟩ := h
                    have e57 : decide (cc ≤ 57) = false := decide_eq_false (by omega)
                    have e43 : (cc == 43) = false := by simp; omega
                    have e45 : (cc == 45) = false := by simp; omega
                    have e46 : (cc == 46) = false := by simp; omega
                    go_wp2_with (go_at_call 15; refine (HC'.out).mono ?_; rintro e w' ⟨rfl, rfl⟩)
                    go_round
                    case rel => exact ⟨t + 1, by omega, by omega, by go_num, .inr ⟨rfl, HX.out⟩⟩
                    case measure => simp [intOf]; omega
                  · have hl : letterB cc = false := letter_no (by omega)
                    rw [hl] at HC
                    have HC' : Hid (Calls Try.prog 15 #[.int .u8 cc] w1 fun e w' => e = .returned (.bool false) ∧ w1 = w') := HC
                    have HX := HN (scheme_no (by omega))
                    clear HC hl HY HN
                    obtain ⟨h1, h2⟩ := h
                    have e57 : decide (cc ≤ 57) = false := decide_eq_false (by omega)
                    have e43 : (cc == 43) = false := by simp; omega
                    have e45 : (cc == 45) = false := by simp; omega
                    have e46 : (cc == 46) = false := by simp; omega
                    go_wp2_with (go_at_call 15; refine (HC'.out).mono ?_; rintro e w' ⟨rfl, rfl⟩)
                    go_round
                    case rel => exact ⟨t + 1, by omega, by omega, by go_num, .inr ⟨rfl, HX.out⟩⟩
                    case measure => simp [intOf]; omega
                  · have hl : letterB cc = false := letter_no (by omega)
                    rw [hl] at HC
                    have HC' : Hid (Calls Try.prog 15 #[.int .u8 cc] w1 fun e w' => e = .returned (.bool false) ∧ w1 = w') := HC
                    have HX := HY (scheme_yes (by omega))
                    clear HC hl HY HN
                    obtain ⟨h1, h2⟩ := h
                    go_wp2_with (go_at_call 15; refine (HC'.out).mono ?_; rintro e w' ⟨rfl, rfl⟩)
                    go_round
                    case rel => exact ⟨t + 1, by omega, by omega, by go_num, .inl ⟨rfl, HX.out⟩⟩
                    case measure => simp [intOf]; omega
                  · have hl : letterB cc = false := letter_no (by omega)
                    rw [hl] at HC
                    have HC' : Hid (Calls Try.prog 15 #[.int .u8 cc] w1 fun e w' => e = .returned (.bool false) ∧ w1 = w') := HC
                    have HX := HN (scheme_no (by omega))
                    clear HC hl HY HN
                    subst h
                    go_wp2_with (go_at_call 15; refine (HC'.out).mono ?_; rintro e w' ⟨rfl, rfl⟩)
                    go_round
                    case rel => exact ⟨t + 1, by omega, by omega, by go_num, .inr ⟨rfl, HX.out⟩⟩
                    case measure => simp [intOf]; omega
                  · have hl : letterB cc = false := letter_no (by omega)
                    rw [hl] at HC
                    have HC' : Hid (Calls Try.prog 15 #[.int .u8 cc] w1 fun e w' => e = .returned (.bool false) ∧ w1 = w') := HC
                    have HX := HY (scheme_yes (by omega))
                    clear HC hl HY HN
                    subst h
                    go_wp2_with (go_at_call 15; refine (HC'.out).mono ?_; rintro e w' ⟨rfl, rfl⟩)
                    go_round
                    case rel => exact ⟨t + 1, by omega, by omega, by go_num, .inl ⟨rfl, HX.out⟩⟩
                    case measure => simp [intOf]; omega
                  · have hl : letterB cc = false := letter_no (by omega)
                    rw [hl] at HC
                    have HC' : Hid (Calls Try.prog 15 #[.int .u8 cc] w1 fun e w' => e = .returned (.bool false) ∧ w1 = w') := HC
                    have HX := HY (scheme_yes (by omega))
                    clear HC hl HY HN
                    subst h
                    go_wp2_with (go_at_call 15; refine (HC'.out).mono ?_; rintro e w' ⟨rfl, rfl⟩)
                    go_round
                    case rel => exact ⟨t + 1, by omega, by omega, by go_num, .inl ⟨rfl, HX.out⟩⟩
                    case measure => simp [intOf]; omega
                  · have hl : letterB cc = false := letter_no (by omega)
                    rw [hl] at HC
                    have HC' : Hid (Calls Try.prog 15 #[.int .u8 cc] w1 fun e w' => e = .returned (.bool false) ∧ w1 = w') := HC
                    have HX := HN (scheme_no (by omega))
                    clear HC hl HY HN
                    subst h
                    go_wp2_with (go_at_call 15; refine (HC'.out).mono ?_; rintro e w' ⟨rfl, rfl⟩)
                    go_round
                    case rel => exact ⟨t + 1, by omega, by omega, by go_num, .inr ⟨rfl, HX.out⟩⟩
                    case measure => simp [intOf]; omega
                  · have hl : letterB cc = false := letter_no (by omega)
                    rw [hl] at HC
                    have HC' : Hid (Calls Try.prog 15 #[.int .u8 cc] w1 fun e w' => e = .returned (.bool false) ∧ w1 = w') := HC
                    have HX := HY (scheme_yes (by omega))
                    clear HC hl HY HN
                    subst h
                    go_wp2_with (go_at_call 15; refine (HC'.out).mono ?_; rintro e w' ⟨rfl, rfl⟩)
                    go_round
                    case rel => exact ⟨t + 1, by omega, by omega, by go_num, .inl ⟨rfl, HX.out⟩⟩
                    case measure => simp [intOf]; omega
                  · have hl : letterB cc = false := letter_no (by omega)
                    rw [hl] at HC
                    have HC' : Hid (Calls Try.prog 15 #[.int .u8 cc] w1 fun e w' => e = .returned (.bool false) ∧ w1 = w') := HC
                    have HX := HN (scheme_no (by omega))
                    clear HC hl HY HN
                    have e43 : (cc == 43) = false := by simp; omega
                    have e45 : (cc == 45) = false := by simp; omega
                    have e46 : (cc == 46) = false := by simp; omega
                    go_wp2_with (go_at_call 15; refine (HC'.out).mono ?_; rintro e w' ⟨rfl, rfl⟩)
                    go_round
                    case rel => exact ⟨t + 1, by omega, by omega, by go_num, .inr ⟨rfl, HX.out⟩⟩
                    case measure => simp [intOf]; omega
                · obtain rfl : k = t := by omega
                  have HOK : Hid (∀ j, j < k → okB z j = true) := HG.out
                  clear HG HK0
                  by_cases hend : k + 1 < n
                  · have c2 := HZ.out (k + 1) hend
                    by_cases h47 : z (k + 1) = 47
                    · have h47' : (z (k + 1) == 47) = true := by simpa using h47
                      have hno : Hid (¬ Opq z n) := fun hq => (HI.out.1 hq).2.2.1 ⟨hend, h47⟩
                      clear h47
                      go_wp2
                      refine wp_loop_rounds 1 ?_; rw [rounds_succ]
                      go_wp2
                      go_ret
                      exact ⟨retb (ans_no HR.out hno.out), HB.out⟩
                    · have h47' : (z (k + 1) == 47) = false := by simpa using h47
                      have HSL : Hid (¬ (k + 1 < n ∧ z (k + 1) = 47)) := fun h => h47 h.2
                      clear h47
                      go_wp2
                      go_loop [6, 9] (fun x i => ∃ t : Nat, k + 1 ≤ t ∧ t ≤ n ∧ i = .int .i64 t ∧ Want3 z n k t x) (fun _ i => n - (intOf i).toNat)
                      case atStart => exact ⟨k + 1, Nat.le_refl _, by omega, by go_num, .inl ⟨rfl, fun j h1 h2 => by omega⟩⟩
                      case round =>
                        obtain ⟨t, ht1, ht2, rfl, hw⟩ := hrel
                        rcases hw with ⟨rfl, hg⟩ | ⟨rfl, hno⟩
                        · have HG : Hid (∀ j, k < j → j < t → badB (z j) = false) := hg
                          clear hg
                          by_cases htl : t < n
                          · have c2 := HZ.out t htl
                            have HBd : badB (z t) = true → Hid (¬ Opq z n) := fun h hq => by
                              have := (HI.out.1 hq).2.2.2 t (by omega) htl
                              rw [this] at h; cases h
                            have HGd : badB (z t) = false → Hid (∀ j, k < j → j < t + 1 → badB (z j) = false) := fun h j h1 h2 => by
                              by_cases e : j = t
                              · subst e; exact h
                              · exact HG.out j h1 (by omega)
                            generalize z t = cc at c2 HBd HGd
                            by_cases b1 : cc ≤ 31
                            · have hno := HBd (bad_yes (.inl b1))
                              clear HBd HGd
                              go_wp2
                              go_round
                              case rel => exact ⟨t + 1, by omega, by omega, by go_num, .inr ⟨rfl, hno.out⟩⟩
                              case measure => simp [intOf]; omega
                            · by_cases b2 : cc = 127
                              · have hno := HBd (bad_yes (.inr (.inl b2)))
                                subst b2
                                clear HBd HGd
                                go_wp2
                                go_round
                                case rel => exact ⟨t + 1, by omega, by omega, by go_num, .inr ⟨rfl, hno.out⟩⟩
                                case measure => simp [intOf]; omega
                              · by_cases b3 : cc = 37
                                · have hno := HBd (bad_yes (.inr (.inr b3)))
                                  subst b3
                                  clear HBd HGd
                                  go_wp2
                                  go_round
                                  case rel => exact ⟨t + 1, by omega, by omega, by go_num, .inr ⟨rfl, hno.out⟩⟩
                                  case measure => simp [intOf]; omega
                                · have hgd := HGd (bad_no (by omega))
                                  have b2' : (cc == 127) = false := by simpa using b2
                                  have b3' : (cc == 37) = false := by simpa using b3
                                  clear HBd HGd
                                  go_wp2
                                  go_round
                                  case rel => exact ⟨t + 1, by omega, by omega, by go_num, .inl ⟨rfl, hgd.out⟩⟩
                                  case measure => simp [intOf]; omega
                          · obtain rfl : t = n := by omega
                            have hyes : Hid (Opq z t) := HI.out.2 ⟨by omega, HOK.out, HSL.out, HG.out⟩
                            go_wp2
                            go_ret
                            exact ⟨retb (ans_yes HR.out hyes.out), HB.out⟩
                        · have HNO : Hid (¬ Opq z n) := hno
                          clear hno
                          go_wp2
                          go_ret
                          exact ⟨retb (ans_no HR.out HNO.out), HB.out⟩
                  · have HSL : Hid (¬ (k + 1 < n ∧ z (k + 1) = 47)) := fun h => hend h.1
                    have hyes : Hid (Opq z n) := HI.out.2 ⟨by omega, HOK.out, HSL.out, fun j h1 h2 => by omega⟩
                    go_wp2
                    refine wp_loop_rounds 1 ?_; rw [rounds_succ]
                    go_wp2
                    go_ret
                    exact ⟨retb (ans_yes HR.out hyes.out), HB.out⟩
              · have hno : Hid (¬ Opq z n) := ‹¬ Opq z n›
                go_wp2
                refine wp_loop_rounds 1 ?_; rw [rounds_succ]
                go_wp2
                go_ret
                exact ⟨retb (ans_no HR.out hno.out), HB.out⟩
      · have h58' : (z k == 58) = false := by simpa using h58
        have HF : Hid (∀ j, j < k + 1 → z j ≠ 58) := by
          intro j hj
          by_cases e : j = k
          · subst e; exact h58
          · exact hf.out j (by omega)
        clear h58
        go_wp2
        go_round
        case rel => exact ⟨k + 1, by omega, by go_num, rfl, HF⟩
        case measure => simp [intOf]; omega
    · obtain rfl : k = n := by omega
      have hno : Hid (¬ Opq z k) := opq_no_colon hf.out
      go_wp2
      refine wp_loop_rounds 1 ?_; rw [rounds_succ]
      go_wp2
      refine wp_loop_rounds 1 ?_; rw [rounds_succ]
      go_wp2
      go_ret
      exact ⟨retb (ans_no HR.out hno.out), HB.out⟩

set_option maxHeartbeats 2000000 in
theorem law4_empty (a : Option Addr) (c : Nat) (zs : List Int) (w : World) (hrow : IsRow .u8 w a 0 c zs) :
    Calls Try.prog 4 #[.slice a 0 c] w fun e w' => e = .returned (.bool true) ∧ Below w.heap.size w w' := by
  have HR0 : Hid (IsRow .u8 w a 0 c zs) := hrow
  clear hrow
  go_enter Try.func4, Try.ntmps4
  go_wp2_with (go_at_call 13; refine (bytes13_ok _ _ _ _ (by omega)).mono ?_; rintro e w' ⟨rfl, rfl⟩)
  refine (clone_row a 0 c zs w (by omega) HR0.out).mono ?_
  rintro e w1 ⟨a', rfl, hb, _⟩
  have HB : Hid (Below w.heap.size w w1) := hb
  clear hb
  go_wp2_with fail
  refine (uri14_empty a' 0 (fun _ => 0) w1).mono ?_
  rintro e w' ⟨⟨r, rfl, hr⟩, rfl⟩
  have HR : Hid (r = true ↔ Opq (fun _ => 0) 0) := hr
  have hno : Hid (¬ Opq (fun _ => 0) 0) := opq_no_colon (fun j hj => by omega)
  clear hr
  go_wp2_with fail
  refine wp_loop_rounds 1 ?_; rw [rounds_succ]
  go_wp2
  refine wp_loop_rounds 1 ?_; rw [rounds_succ]
  go_wp2
  refine wp_loop_rounds 1 ?_; rw [rounds_succ]
  go_wp2
  go_ret
  exact ⟨retb (ans_no HR.out hno.out), HB.out⟩

end Go.Proofs.Qxb6602732a
