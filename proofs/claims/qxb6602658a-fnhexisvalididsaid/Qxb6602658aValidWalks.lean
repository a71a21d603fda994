/-
  WALKS: 'validID' (19) at a string of hex digits, 'ZZvalidID' (11), 'FnHexIsValidID' (4).
-/
import Derived.Test.Qxb6602658aHexWalks
namespace Go.Proofs.Qxb6602658a
open Go.RowKit

set_option maxHeartbeats 1000000 in
theorem validID_hex (s : ByteArray) (w : World) (hs : s.size ≤ 1048576) (hne : s.toList.isEmpty = false) (ha : Hid (allHex s = true)) :
    Calls Try.prog 19 #[.string s] w fun e w' => e = .returned (.bool true) ∧ Below w.heap.size w w' := by
  obtain ⟨cap, w1, hcv, hb, hc⟩ := conv_bytes s w
  have HB : Hid (Below w.heap.size w w1) := hb
  have HC : Hid (∀ j, j < s.size → w1.cell? ⟨w.heap.size, j, none⟩ = some (.int .u8 (bt s j))) := hc
  clear hb hc
  go_enter Try.func19, Try.ntmps19
  go_wp2
  go_loop [10] (fun i => ∃ k : Nat, k ≤ s.size ∧ i = .int .i64 k) (fun i => s.size - (intOf i).toNat)
  case atStart => exact ⟨0, Nat.zero_le _, rfl⟩
  case round =>
    obtain ⟨k, hk, rfl⟩ := hrel
    by_cases hlt : k < s.size
    · have hcell := HC.out k hlt
      have hx : hexB (bt s k) = true := (allFrom_iff _ _).1 ha.out k (Nat.zero_le _) (by omega)
      have l0 := bt_lo s k
      have l1 := bt_hi s k
      generalize bt s k = c at hcell l0 l1 hx
      have hx' := of_decide_eq_true hx
      clear hx
      by_cases h1 : 97 ≤ c
      · have h2 : c ≤ 102 := by omega
        have h3 : 90 < c := by omega
        have h4 : c ≤ 122 := by omega
        clear hx'
        go_wp2
        go_round
        case rel => exact ⟨k + 1, by omega, by go_num⟩
        case measure => simp [intOf]; omega
      · have h2 : 48 ≤ c := by omega
        have h3 : c ≤ 57 := by omega
        have h4 : c < 65 := by omega
        clear hx'
        go_wp2
        go_round
        case rel => exact ⟨k + 1, by omega, by go_num⟩
        case measure => simp [intOf]; omega
    · go_wp2
      go_ret
      exact ⟨rfl, HB.out⟩

theorem zzvalidID_hex (s : ByteArray) (w : World) (hs : s.size ≤ 1048576) (hne : s.toList.isEmpty = false) (ha : Hid (allHex s = true)) :
    Calls Try.prog 11 #[.string s] w fun e w' => e = .returned (.bool true) ∧ Below w.heap.size w w' := by
  go_enter Try.func11, Try.ntmps11
  go_wp2_with (go_at_call 19; refine (validID_hex s _ hs hne ha).mono ?_; rintro e w' ⟨rfl, hb⟩)
  go_ret
  exact ⟨rfl, hb⟩

theorem bytes12_ok (s : ByteArray) (n : Int) (w : World) (hs : s.size ≤ 1048576) :
    Calls Try.prog 12 #[.string s, .int .i64 n] w fun e w' => e = .returned (.bool true) ∧ w = w' := by
  go_enter Try.func12, Try.ntmps12
  go_wp2
  go_ret
  exact ⟨rfl, rfl⟩

theorem hexValid_long (s : ByteArray) (n : Int) (w : World) (hm : s.size ≤ maxLen) (hs : 1048576 < s.size) :
    Calls Try.prog 4 #[.string s, .int .i64 n] w fun e w' => e = .returned (.bool true) ∧ Below w.heap.size w w' := by
  unfold maxLen at hm
  go_enter Try.func4, Try.ntmps4
  go_wp2
  go_ret
  exact ⟨rfl, Below.refl _ _⟩

set_option maxHeartbeats 1000000 in
theorem hexValid_any (s : ByteArray) (n : Int) (w : World) (hs : s.size ≤ 1048576) :
    Calls Try.prog 4 #[.string s, .int .i64 n] w fun e w' => e = .returned (.bool true) ∧ Below w.heap.size w w' := by
  cases hne : s.toList.isEmpty
  · cases hq : ((s.size : Int) == wrap64 (2 * n))
    · have HQ : Hid (((s.size : Int) == wrap64 (2 * n)) = false) := hq
      clear hq
      go_enter Try.func4, Try.ntmps4
      go_wp2_with (first
        | (go_at_call 12; refine (bytes12_ok s n _ hs).mono ?_; rintro e w' ⟨rfl, rfl⟩)
        | (go_at_call 13; refine (zzisHex_len s n _ HQ.out).mono ?_; rintro e w' ⟨rfl, rfl⟩))
      go_ret
      exact ⟨rfl, Below.refl _ _⟩
    · have HQ : Hid (((s.size : Int) == wrap64 (2 * n)) = true) := hq
      clear hq
      have HA := zzisHex_all s n w (by omega) HQ.out
      cases ha : allHex s
      · rw [ha] at HA
        have HH : Hid (Calls Try.prog 13 #[.string s, .int .i64 n] w fun e w' => e = .returned (.bool false) ∧ Below w.heap.size w w') := HA
        clear HA
        go_enter Try.func4, Try.ntmps4
        go_wp2_with (first
          | (go_at_call 12; refine (bytes12_ok s n _ hs).mono ?_; rintro e w' ⟨rfl, rfl⟩)
          | (go_at_call 13; refine (HH.out).mono ?_; rintro e w1 ⟨rfl, hb⟩))
        go_ret
        exact ⟨rfl, hb⟩
      · rw [ha] at HA
        have HH : Hid (Calls Try.prog 13 #[.string s, .int .i64 n] w fun e w' => e = .returned (.bool true) ∧ Below w.heap.size w w') := HA
        have HE : Hid (allHex s = true) := ha
        clear HA ha
        go_enter Try.func4, Try.ntmps4
        go_wp2_with (first
          | (go_at_call 12; refine (bytes12_ok s n _ hs).mono ?_; rintro e w' ⟨rfl, rfl⟩)
          | (go_at_call 13; refine (HH.out).mono ?_; rintro e w1 ⟨rfl, hb⟩)
          | (go_at_call 11; refine (zzvalidID_hex s _ hs hne HE).mono ?_; rintro e w2 ⟨rfl, hb2⟩))
        go_ret
        exact ⟨rfl, hb.trans (hb2.mono hb.size)⟩
  · go_enter Try.func4, Try.ntmps4
    go_wp2_with (go_at_call 12; refine (bytes12_ok s n _ hs).mono ?_; rintro e w' ⟨rfl, rfl⟩)
    go_ret
    exact ⟨rfl, Below.refl _ _⟩

end Go.Proofs.Qxb6602658a
