/-
  WALKS: 'isOpaqueURI' (26), 'ZZIsOpaqueURI' (14).
-/
import Derived.Test.Qxb6602732aOpqBytes
namespace Go.Proofs.Qxb6602732a
open Go.RowKit

/-- THE URI AS THE WALK MEETS IT: n bytes z from place 0 of block b on. -/
def UriAt (w : World) (b n : Nat) (z : Nat → Int) : Prop := ∀ j, j < n → w.cell? ⟨b, j, none⟩ = some (.int .u8 (z j))

/-- The answer is a bool, and the right one. -/
def OpqAns (z : Nat → Int) (n : Nat) (e : Ending) : Prop := ∃ r, e = .returned (.bool r) ∧ (r = true ↔ Opq z n)
theorem opqAns_no {z : Nat → Int} {n : Nat} (h : ¬ Opq z n) : OpqAns z n (.returned (.bool false)) := ⟨false, rfl, by simpa using h⟩
theorem opqAns_yes {z : Nat → Int} {n : Nat} (h : Opq z n) : OpqAns z n (.returned (.bool true)) := ⟨true, rfl, by simpa using h⟩

theorem scheme_ok (z : Nat → Int) (k : Nat) (X f : Bool) (w : World) (h : okB z k = X) (hf : f = decide (k = 0)) : Calls Try.prog 29 #[.int .u8 (z k), .bool f] w fun e w' => e = .returned (.bool X) ∧ w = w' := by
  have := scheme29_any (z k) f w
  subst hf
  unfold okB at h
  rw [h] at this
  exact this

set_option maxHeartbeats 2000000 in
theorem uri26_any (b n : Nat) (z : Nat → Int) (w : World) (hn : n ≤ 1048576) (hz : UriAt w b n z) :
    Calls Try.prog 26 #[.slice (some ⟨b, 0, none⟩) n n] w fun e w' => OpqAns z n e ∧ w = w' := by
  have HZ : Hid (UriAt w b n z) := hz
  clear hz
  go_enter Try.func26, Try.ntmps26
  go_wp2
  go_loop [3] (fun i => ∃ k : Nat, k ≤ n ∧ i = .int .i64 k ∧ Hid (∀ j, j < k → okB z j = true)) (fun i => n - (intOf i).toNat)
  case atStart => exact ⟨0, Nat.zero_le _, rfl, fun j hj => by omega⟩
  case round =>
    obtain ⟨k, hk, rfl, hok⟩ := hrel
    by_cases hlt : k < n
    · have c0 := HZ.out k hlt
      cases hkk : okB z k
      · have HK : Hid (okB z k = false) := hkk
        clear hkk
        by_cases hk0 : k = 0
        · subst hk0
          have hno : Hid (¬ Opq z n) := opq_no_scheme hok.out (fun _ => HK.out) (.inl rfl)
          go_wp2_with (go_at_call 29; refine (scheme_ok z 0 false _ _ HK.out (by simp)).mono ?_; rintro e w' ⟨rfl, rfl⟩)
          go_ret
          exact ⟨opqAns_no hno.out, rfl⟩
        · by_cases h58 : z k = 58
          · have h58' : (z k != 58) = false := by simpa using h58
            have H58 : Hid (z k = 58) := h58
            clear h58
            have hk0' : ((k : Int) == 0) = false := by simpa using hk0
            by_cases hend : k + 1 < n
            · have c1 := HZ.out (k + 1) hend
              have hkn : ((k : Int) == (n : Int)) = false := by simp; omega
              by_cases h47 : z (k + 1) = 47
              · have h47' : (z (k + 1) == 47) = true := by simpa using h47
                have hno : Hid (¬ Opq z n) := opq_no_slash hok.out (fun _ => HK.out) hend h47
                clear h47
                go_wp2_with (go_at_call 29; refine (scheme_ok z k false _ _ HK.out (by simp [hk0])).mono ?_; rintro e w' ⟨rfl, rfl⟩)
                go_ret
                exact ⟨opqAns_no hno.out, rfl⟩
              · have h47' : (z (k + 1) == 47) = false := by simpa using h47
                have H47 : Hid (¬ z (k + 1) = 47) := h47
                clear h47
                go_wp2_with (go_at_call 29; refine (scheme_ok z k false _ _ HK.out (by simp [hk0])).mono ?_; rintro e w' ⟨rfl, rfl⟩)
                go_loop [52] (fun i => ∃ t : Nat, t ≤ n - (k + 1) ∧ i = .int .i64 t ∧ Hid (∀ j, k < j → j < k + 1 + t → badB (z j) = false)) (fun i => (n - (k + 1)) - (intOf i).toNat)
                case atStart => exact ⟨0, Nat.zero_le _, rfl, fun j h1 h2 => by omega⟩
                case round =>
                  obtain ⟨t, ht, rfl, hgood⟩ := hrel
                  by_cases htl : t < n - (k + 1)
                  · have c2 := HZ.out (k + 1 + t) (by omega)
                    have HB : badB (z (k + 1 + t)) = true → Hid (¬ Opq z n) := fun h => opq_no_bad hok.out (fun _ => HK.out) (j := k + 1 + t) (by omega) (by omega) h
                    have HG : badB (z (k + 1 + t)) = false → Hid (∀ j, k < j → j < k + 1 + (t + 1) → badB (z j) = false) := by
                      intro h j h1 h2
                      by_cases e : j = k + 1 + t
                      · subst e; exact h
                      · exact hgood.out j h1 (by omega)
                    clear c0 c1 h58' h47'
                    generalize z (k + 1 + t) = c at c2 HB HG
                    by_cases b1 : c ≤ 31
                    · have hno := HB (bad_yes (.inl b1))
                      clear HB HG
                      go_wp2
                      go_ret
                      exact ⟨opqAns_no hno.out, rfl⟩
                    · by_cases b2 : c = 127
                      · have hno := HB (bad_yes (.inr (.inl b2)))
                        subst b2
                        clear HB HG
                        go_wp2
                        go_ret
                        exact ⟨opqAns_no hno.out, rfl⟩
                      · by_cases b3 : c = 37
                        · have hno := HB (bad_yes (.inr (.inr b3)))
                          subst b3
                          clear HB HG
                          go_wp2
                          go_ret
                          exact ⟨opqAns_no hno.out, rfl⟩
                        · have hg := HG (bad_no (by omega))
                          have b2' : (c == 127) = false := by simpa using b2
                          have b3' : (c == 37) = false := by simpa using b3
                          clear HB HG
                          go_wp2
                          go_round
                          case rel => exact ⟨t + 1, by omega, by go_num, hg⟩
                          case measure => simp [intOf]; omega
                  · obtain rfl : t = n - (k + 1) := by omega
                    have hyes : Hid (Opq z n) := ⟨k, by omega, by omega, hok.out, H58.out, fun h => H47.out h.2, fun j h1 h2 => hgood.out j h1 (by omega)⟩
                    go_wp2
                    go_ret
                    exact ⟨opqAns_yes hyes.out, rfl⟩
            · obtain rfl : n = k + 1 := by omega
              have hkn : ((k : Int) == (k : Int) + 1) = false := by simp; omega
              have hyes : Hid (Opq z (k + 1)) := ⟨k, by omega, by omega, hok.out, H58.out, by omega, fun j h1 h2 => by omega⟩
              go_wp2_with (go_at_call 29; refine (scheme_ok z k false _ _ HK.out (by simp [hk0])).mono ?_; rintro e w' ⟨rfl, rfl⟩)
              refine wp_loop_rounds 1 ?_; rw [rounds_succ]
              go_wp2
              go_ret
              exact ⟨opqAns_yes hyes.out, rfl⟩
          · have hno : Hid (¬ Opq z n) := opq_no_scheme hok.out (fun _ => HK.out) (.inr (.inr h58))
            have h58' : (z k != 58) = true := by simpa using h58
            clear h58
            go_wp2_with (go_at_call 29; refine (scheme_ok z k false _ _ HK.out (by simp [hk0])).mono ?_; rintro e w' ⟨rfl, rfl⟩)
            go_ret
            exact ⟨opqAns_no hno.out, rfl⟩
      · have HK : Hid (okB z k = true) := hkk
        have HN : Hid (∀ j, j < k + 1 → okB z j = true) := by
          intro j hj
          by_cases e : j = k
          · subst e; exact hkk
          · exact hok.out j (by omega)
        clear hkk
        by_cases hk0 : k = 0
        · subst hk0
          go_wp2_with (go_at_call 29; refine (scheme_ok z 0 true _ _ HK.out (by simp)).mono ?_; rintro e w' ⟨rfl, rfl⟩)
          go_round
          case rel => exact ⟨1, by omega, by go_num, HN⟩
          case measure => simp [intOf]; omega
        · go_wp2_with (go_at_call 29; refine (scheme_ok z k true _ _ HK.out (by simp [hk0])).mono ?_; rintro e w' ⟨rfl, rfl⟩)
          go_round
          case rel => exact ⟨k + 1, by omega, by go_num, HN⟩
          case measure => simp [intOf]; omega
    · have hno : Hid (¬ Opq z n) := opq_no_scheme hok.out (fun h => absurd h hlt) (.inr (.inl (by omega)))
      obtain rfl : k = n := by omega
      by_cases hk0 : k = 0
      · subst hk0
        go_wp2
        go_ret
        exact ⟨opqAns_no hno.out, rfl⟩
      · go_wp2
        go_ret
        exact ⟨opqAns_no hno.out, rfl⟩

theorem uri26_empty (a : Option Addr) (c : Nat) (z : Nat → Int) (w : World) :
    Calls Try.prog 26 #[.slice a 0 c] w fun e w' => OpqAns z 0 e ∧ w = w' := by
  have hno : Hid (¬ Opq z 0) := opq_no_colon (fun j hj => by omega)
  go_enter Try.func26, Try.ntmps26
  go_wp2
  refine wp_loop_rounds 1 ?_; rw [rounds_succ]
  go_wp2
  go_ret
  exact ⟨opqAns_no hno.out, rfl⟩

theorem uri14_any (b n : Nat) (z : Nat → Int) (w : World) (hn : n ≤ 1048576) (hz : UriAt w b n z) :
    Calls Try.prog 14 #[.slice (some ⟨b, 0, none⟩) n n] w fun e w' => OpqAns z n e ∧ w = w' := by
  go_enter Try.func14, Try.ntmps14
  go_wp2_with (go_at_call 26; refine (uri26_any b n z _ hn hz).mono ?_; rintro e w' ⟨⟨r, rfl, hr⟩, rfl⟩)
  go_ret
  exact ⟨⟨r, rfl, hr⟩, rfl⟩

theorem uri14_empty (a : Option Addr) (c : Nat) (z : Nat → Int) (w : World) :
    Calls Try.prog 14 #[.slice a 0 c] w fun e w' => OpqAns z 0 e ∧ w = w' := by
  go_enter Try.func14, Try.ntmps14
  go_wp2_with (go_at_call 26; refine (uri26_empty a c z _).mono ?_; rintro e w' ⟨⟨r, rfl, hr⟩, rfl⟩)
  go_ret
  exact ⟨⟨r, rfl, hr⟩, rfl⟩

end Go.Proofs.Qxb6602732a
