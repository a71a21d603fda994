/-
  WALKS: 'zzb1InSet' (21), 'zzb1AllIn' (15), 'FnIsHexWhole' (5).
-/
import Derived.Test.Qxb6602658aHexWalks
namespace Go.Proofs.Qxb6602658a
open Go.RowKit

/-- The law's own digits. -/
def digs : ByteArray := ⟨#[48, 49, 50, 51, 52, 53, 54, 55, 56, 57, 97, 98, 99, 100, 101, 102]⟩

theorem bt_get {s : ByteArray} {k : Nat} (h : k < s.size) : ((s[k]'h).toNat : Int) = bt s k := by
  unfold bt
  have h' : k < s.data.toList.length := by simpa using h
  rw [List.getD, List.getElem?_eq_getElem h', Option.getD_some, Array.getElem_toList]
  rfl

/-- Is one of the bytes of set from place k on the byte c? -/
def anyFrom (set : ByteArray) (c : Int) (k : Nat) : Bool := (List.range set.size).any fun j => decide (k ≤ j) && (bt set j == c)
theorem any_hex (c : Int) (h0 : 0 ≤ c) (h1 : c ≤ 255) : anyFrom digs c 0 = hexB c := by
  obtain ⟨n, rfl⟩ := Int.eq_ofNat_of_zero_le h0
  have h : n < 256 := by omega
  have key : ∀ n : Fin 256, anyFrom digs (n.val : Int) 0 = hexB (n.val : Int) := by decide +kernel
  exact key ⟨n, h⟩
theorem any_yes {set : ByteArray} {c : Int} {k : Nat} (hk : k < set.size) (h : bt set k = c) : anyFrom set c k = true := by
  unfold anyFrom
  rw [List.any_eq_true]
  exact ⟨k, List.mem_range.2 hk, by simp [h]⟩
theorem any_no {set : ByteArray} {c : Int} {k : Nat} (h : ¬ bt set k = c) : anyFrom set c k = anyFrom set c (k + 1) := by
  unfold anyFrom
  rw [Bool.eq_iff_iff, List.any_eq_true, List.any_eq_true]
  constructor
  · rintro ⟨j, hj, hp⟩
    simp at hp
    refine ⟨j, hj, ?_⟩
    have : j ≠ k := by rintro rfl; exact h hp.2
    simp [hp.2]; omega
  · rintro ⟨j, hj, hp⟩
    simp at hp
    refine ⟨j, hj, ?_⟩
    simp [hp.2]; omega
theorem any_end {set : ByteArray} {c : Int} {k : Nat} (hk : set.size ≤ k) : anyFrom set c k = false := by
  unfold anyFrom
  rw [List.any_eq_false]
  intro j hj
  have := List.mem_range.1 hj
  simp; omega

set_option maxHeartbeats 400000 in
theorem inSet_any (c : Int) (set : ByteArray) (w : World) (hs : set.size ≤ 1000) :
    Calls Try.prog 21 #[.int .u8 c, .string set] w fun e w' => e = .returned (.bool (anyFrom set c 0)) ∧ w = w' := by
  go_enter Try.func21, Try.ntmps21
  go_wp2
  go_loop [5] (fun i => ∃ k : Nat, k ≤ set.size ∧ i = .int .i64 k ∧ Hid (anyFrom set c 0 = anyFrom set c k)) (fun i => set.size - (intOf i).toNat)
  case atStart => exact ⟨0, Nat.zero_le _, rfl, rfl⟩
  case round =>
    obtain ⟨k, hk, rfl, hf⟩ := hrel
    by_cases hlt : k < set.size
    · have hg := bt_get hlt
      have HY : bt set k = c → Hid (anyFrom set c 0 = true) := fun h => hf.out.trans (any_yes hlt h)
      have HN : ¬ bt set k = c → Hid (anyFrom set c 0 = anyFrom set c (k + 1)) := fun h => hf.out.trans (any_no h)
      rw [← hg] at HY HN
      clear hg
      go_wp2
      · have h : ((set[k].toNat : Int) == c) = true := by assumption
        go_ret
        exact ⟨by rw [(HY (by simpa using h)).out]; rfl, rfl⟩
      · have h : ((set[k].toNat : Int) == c) = false := by assumption
        go_round
        case rel => exact ⟨k + 1, by omega, by go_num, HN (by simpa using h)⟩
        case measure => simp [intOf]; omega
    · go_wp2
      go_ret
      exact ⟨by rw [hf.out, any_end (by omega)]; rfl, rfl⟩

theorem inSet_hex (c : Int) (h0 : 0 ≤ c) (h1 : c ≤ 255) (w : World) :
    Calls Try.prog 21 #[.int .u8 c, .string ⟨#[48, 49, 50, 51, 52, 53, 54, 55, 56, 57, 97, 98, 99, 100, 101, 102]⟩] w fun e w' => e = .returned (.bool (hexB c)) ∧ w = w' := by
  have := inSet_any c digs w (by decide)
  rw [any_hex c h0 h1] at this
  exact this

theorem get_lo (s : ByteArray) (k : Nat) (h : k < s.size) : 0 ≤ ((s[k]'h).toNat : Int) := by rw [bt_get h]; exact bt_lo s k
theorem get_hi (s : ByteArray) (k : Nat) (h : k < s.size) : ((s[k]'h).toNat : Int) ≤ 255 := by rw [bt_get h]; exact bt_hi s k

set_option maxHeartbeats 400000 in
theorem allIn_hex (s : ByteArray) (w : World) (hs : s.size ≤ 1048576) :
    Calls Try.prog 15 #[.string s, .string ⟨#[48, 49, 50, 51, 52, 53, 54, 55, 56, 57, 97, 98, 99, 100, 101, 102]⟩] w fun e w' => e = .returned (.bool (allHex s)) ∧ w = w' := by
  go_enter Try.func15, Try.ntmps15
  go_wp2
  go_loop [5] (fun i => ∃ k : Nat, k ≤ s.size ∧ i = .int .i64 k ∧ Hid (allHex s = allFrom (fun j => hexB (bt s j)) k (s.size - k))) (fun i => s.size - (intOf i).toNat)
  case atStart => exact ⟨0, Nat.zero_le _, rfl, rfl⟩
  case round =>
    obtain ⟨k, hk, rfl, hf⟩ := hrel
    by_cases hlt : k < s.size
    · have HI := inSet_hex (s[k]'hlt).toNat (get_lo s k hlt) (get_hi s k hlt) w
      have hg := bt_get hlt
      rw [hg] at HI
      cases hh : hexB (bt s k)
      · rw [hh] at HI
        rw [← hg] at HI
        have HI' : Hid (Calls Try.prog 21 #[.int .u8 ((s[k]'hlt).toNat : Int), .string ⟨#[48, 49, 50, 51, 52, 53, 54, 55, 56, 57, 97, 98, 99, 100, 101, 102]⟩] w fun e w' => e = .returned (.bool false) ∧ w = w') := HI
        have HN : Hid (allHex s = false) := hf.out.trans (allFrom_no hlt hh)
        clear HI hg hh
        go_wp2_with (go_at_call 21; refine (HI'.out).mono ?_; rintro e w' ⟨rfl, rfl⟩)
        go_ret
        exact ⟨by rw [HN.out]; rfl, rfl⟩
      · rw [hh] at HI
        rw [← hg] at HI
        have HI' : Hid (Calls Try.prog 21 #[.int .u8 ((s[k]'hlt).toNat : Int), .string ⟨#[48, 49, 50, 51, 52, 53, 54, 55, 56, 57, 97, 98, 99, 100, 101, 102]⟩] w fun e w' => e = .returned (.bool true) ∧ w = w') := HI
        have HY : Hid (allHex s = allFrom (fun j => hexB (bt s j)) (k + 1) (s.size - (k + 1))) := hf.out.trans (allFrom_yes hlt hh)
        clear HI hg hh
        go_wp2_with (go_at_call 21; refine (HI'.out).mono ?_; rintro e w' ⟨rfl, rfl⟩)
        go_round
        case rel => exact ⟨k + 1, by omega, by go_num, HY⟩
        case measure => simp [intOf]; omega
    · go_wp2
      go_ret
      exact ⟨by rw [hf.out, allFrom_end (by omega)]; rfl, rfl⟩

theorem bytes14_ok (s : ByteArray) (n : Int) (w : World) (hs : s.size ≤ 1048576) :
    Calls Try.prog 14 #[.string s, .int .i64 n] w fun e w' => e = .returned (.bool true) ∧ w = w' := by
  go_enter Try.func14, Try.ntmps14
  go_wp2
  go_ret
  exact ⟨rfl, rfl⟩

theorem whole5_long (s : ByteArray) (n : Int) (w : World) (hm : s.size ≤ maxLen) (hs : 1048576 < s.size) :
    Calls Try.prog 5 #[.string s, .int .i64 n] w fun e w' => e = .returned (.bool true) ∧ Below w.heap.size w w' := by
  unfold maxLen at hm
  go_enter Try.func5, Try.ntmps5
  go_wp2
  go_ret
  exact ⟨rfl, Below.refl _ _⟩

set_option maxHeartbeats 1000000 in
/-- An odd length. -/
theorem whole5_odd (s : ByteArray) (n : Int) (w : World) (hs : s.size ≤ 1048576) (hp : ((s.size : Int) % 2 == 0) = false) (HQ : Hid (((s.size : Int) == wrap64 (2 * n)) = false)) :
    Calls Try.prog 5 #[.string s, .int .i64 n] w fun e w' => e = .returned (.bool true) ∧ Below w.heap.size w w' := by
  go_enter Try.func5, Try.ntmps5
  go_wp2_with (first
    | (go_at_call 14; refine (bytes14_ok s n _ hs).mono ?_; rintro e w' ⟨rfl, rfl⟩)
    | (go_at_call 13; refine (zzisHex_len s n _ HQ.out).mono ?_; rintro e w' ⟨rfl, rfl⟩))
  go_ret
  exact ⟨rfl, Below.refl _ _⟩

set_option maxHeartbeats 1000000 in
/-- An even length, n its half. -/
theorem whole5_half (s : ByteArray) (n : Int) (w : World) (hs : s.size ≤ 1048576) (hp : ((s.size : Int) % 2 == 0) = true) (hn : (n == (s.size : Int) / 2) = true) (HQ : Hid (((s.size : Int) == wrap64 (2 * n)) = true)) :
    Calls Try.prog 5 #[.string s, .int .i64 n] w fun e w' => e = .returned (.bool true) ∧ Below w.heap.size w w' := by
  go_enter Try.func5, Try.ntmps5
  go_wp2_with (first
    | (go_at_call 14; refine (bytes14_ok s n _ hs).mono ?_; rintro e w' ⟨rfl, rfl⟩)
    | (go_at_call 15; refine (allIn_hex s _ hs).mono ?_; rintro e w' ⟨rfl, rfl⟩)
    | (go_at_call 13; refine (zzisHex_all s n _ (by omega) HQ.out).mono ?_; rintro e w' ⟨rfl, hb⟩))
  go_ret
  exact ⟨by simp, hb⟩

set_option maxHeartbeats 1000000 in
/-- An even length, n the one other int that doubles to it. -/
theorem whole5_low (s : ByteArray) (w : World) (hs : s.size ≤ 1048576) (hp : ((s.size : Int) % 2 == 0) = true) (HQ : Hid (((s.size : Int) == wrap64 (2 * (-9223372036854775808 + (s.size : Int) / 2))) = true)) :
    Calls Try.prog 5 #[.string s, .int .i64 (-9223372036854775808 + (s.size : Int) / 2)] w fun e w' => e = .returned (.bool true) ∧ Below w.heap.size w w' := by
  go_enter Try.func5, Try.ntmps5
  go_wp2_with (first
    | (go_at_call 14; refine (bytes14_ok s _ _ hs).mono ?_; rintro e w' ⟨rfl, rfl⟩)
    | (go_at_call 15; refine (allIn_hex s _ hs).mono ?_; rintro e w' ⟨rfl, rfl⟩)
    | (go_at_call 13; refine (zzisHex_all s _ _ (by omega) HQ.out).mono ?_; rintro e w' ⟨rfl, hb⟩))
  go_ret
  exact ⟨by simp, hb⟩

set_option maxHeartbeats 1000000 in
/-- An even length, n neither of the two. -/
theorem whole5_none (s : ByteArray) (n : Int) (w : World) (hs : s.size ≤ 1048576) (hp : ((s.size : Int) % 2 == 0) = true) (hn : (n == (s.size : Int) / 2) = false) (hl : ¬ n = -9223372036854775808 + (s.size : Int) / 2) (HQ : Hid (((s.size : Int) == wrap64 (2 * n)) = false)) :
    Calls Try.prog 5 #[.string s, .int .i64 n] w fun e w' => e = .returned (.bool true) ∧ Below w.heap.size w w' := by
  go_enter Try.func5, Try.ntmps5
  go_wp2_with (first
    | (go_at_call 14; refine (bytes14_ok s n _ hs).mono ?_; rintro e w' ⟨rfl, rfl⟩)
    | (go_at_call 13; refine (zzisHex_len s n _ HQ.out).mono ?_; rintro e w' ⟨rfl, rfl⟩))
  go_ret
  exact ⟨rfl, Below.refl _ _⟩

/-! The plain law: which ints double, with wrap, to the length. -/
theorem dbl_odd {l n : Int} (h : ¬ l % 2 = 0) : ¬ l = wrap64 (2 * n) := by unfold wrap64; omega
theorem dbl_even {l n : Int} (h0 : 0 ≤ l) (h1 : l ≤ 1048576) (hp : l % 2 = 0) (a : -9223372036854775808 ≤ n) (b : n ≤ 9223372036854775807) : l = wrap64 (2 * n) ↔ n = l / 2 ∨ n = -9223372036854775808 + l / 2 := by
  unfold wrap64; omega

theorem whole5_any (s : ByteArray) (n : Int) (w : World) (hs : s.size ≤ 1048576) (a : -9223372036854775808 ≤ n) (b : n ≤ 9223372036854775807) :
    Calls Try.prog 5 #[.string s, .int .i64 n] w fun e w' => e = .returned (.bool true) ∧ Below w.heap.size w w' := by
  by_cases hp : (s.size : Int) % 2 = 0
  · have hd := dbl_even (by omega) (by omega) hp a b
    by_cases hn : n = (s.size : Int) / 2
    · exact whole5_half s n w hs (by simpa using hp) (by simpa using hn) (show _ = _ by simpa using hd.2 (.inl hn))
    · by_cases hl : n = -9223372036854775808 + (s.size : Int) / 2
      · have hq := hd.2 (.inr hl)
        rw [hl] at hq ⊢
        exact whole5_low s w hs (by simpa using hp) (show _ = _ by simpa using hq)
      · refine whole5_none s n w hs (by simpa using hp) (by simpa using hn) hl (show _ = _ from ?_)
        simp only [beq_eq_false_iff_ne, ne_eq]
        intro h
        rcases hd.1 h with h | h
        · exact hn h
        · exact hl h
  · exact whole5_odd s n w hs (by simpa using hp) (show _ = _ by simpa using dbl_odd hp)

end Go.Proofs.Qxb6602658a
