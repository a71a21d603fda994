/-
  WALKS: 'isHex' (20), 'ZZisHex' (13).
-/
import Derived.Test.Qxb6602658aRows
import Derived.Test.Qxb6602658aHexPlain
import Derived.WalkSpells
import Derived.WalkLawsBesides
import Derived.Lib.ConvBytes
namespace Go.Proofs.Qxb6602658a
open Go.RowKit

/-- '[]byte(s)': a new row that holds s's bytes; nothing old has turned. -/
theorem conv_bytes (s : ByteArray) (w : World) : ∃ cap w1, (convert 9 25 (.string s)).run Try.prog w = .ok (.slice (some ⟨w.heap.size, 0, none⟩) s.size cap) w1 ∧ Below w.heap.size w w1 ∧
    ∀ j, j < s.size → w1.cell? ⟨w.heap.size, j, none⟩ = some (.int .u8 (bt s j)) :=
  ⟨_, _, Lib.run_convert_string_bytes w 9 25 5 s Try.underlying9 Try.underlying25 Try.underlying5,
    ⟨rfl, rfl, rfl, by rw [Lib.bytesWorld_size]; omega, fun k hk => Lib.bytesWorld_at_old w 5 s k hk⟩, fun j hj => Lib.bytesWorld_cell w 5 s j hj⟩

theorem isHex_len (s : ByteArray) (n : Int) (w : World) (hq : ((s.size : Int) == wrap64 (2 * n)) = false) :
    Calls Try.prog 20 #[.string s, .int .i64 n] w fun e w' => e = .returned (.bool false) ∧ w' = w := by
  go_enter Try.func20, Try.ntmps20
  go_wp2
  go_ret
  exact ⟨rfl, rfl⟩

set_option maxHeartbeats 1000000 in
theorem isHex_all (s : ByteArray) (n : Int) (w : World) (hs : s.size ≤ 2097152) (hq : ((s.size : Int) == wrap64 (2 * n)) = true) :
    Calls Try.prog 20 #[.string s, .int .i64 n] w fun e w' => e = .returned (.bool (allHex s)) ∧ Below w.heap.size w w' := by
  obtain ⟨cap, w1, hcv, hb, hc⟩ := conv_bytes s w
  have HB : Hid (Below w.heap.size w w1) := hb
  have HC : Hid (∀ j, j < s.size → w1.cell? ⟨w.heap.size, j, none⟩ = some (.int .u8 (bt s j))) := hc
  clear hb hc
  go_enter Try.func20, Try.ntmps20
  go_wp2
  go_loop [15] (fun i => ∃ k : Nat, k ≤ s.size ∧ i = .int .i64 k ∧ Hid (allHex s = allFrom (fun j => hexB (bt s j)) k (s.size - k))) (fun i => s.size - (intOf i).toNat)
  case atStart => exact ⟨0, Nat.zero_le _, rfl, rfl⟩
  case round =>
    obtain ⟨k, hk, rfl, hf⟩ := hrel
    by_cases hlt : k < s.size
    · have hcell := HC.out k hlt
      have l0 := bt_lo s k
      have l1 := bt_hi s k
      have HY : hexB (bt s k) = true → Hid (allHex s = allFrom (fun j => hexB (bt s j)) (k + 1) (s.size - (k + 1))) := fun h => hf.out.trans (allFrom_yes hlt h)
      have HN : hexB (bt s k) = false → Hid (allHex s = false) := fun h => hf.out.trans (allFrom_no hlt h)
      generalize bt s k = c at hcell l0 l1 HY HN
      by_cases h1 : 48 ≤ c ∧ c ≤ 57
      · obtain ⟨h1, h2⟩ := h1
        have HY' := HY (hexB_yes (.inl ⟨h1, h2⟩))
        clear HY HN
        go_wp2
        go_round
        case rel => exact ⟨k + 1, by omega, by go_num, HY'⟩
        case measure => simp [intOf]; omega
      · by_cases h2 : 97 ≤ c ∧ c ≤ 102
        · have HY' := HY (hexB_yes (.inr h2))
          obtain ⟨h2, h3⟩ := h2
          have h4 : 57 < c := by omega
          clear HY HN h1
          go_wp2
          go_round
          case rel => exact ⟨_, _, _, ⟨k + 1, by omega, by go_num, HY'⟩, rfl, rfl, rfl⟩
          case measure => simp [intOf]; omega
        · have HN' := HN (hexB_no (by omega))
          clear HY HN
          by_cases a1 : 48 ≤ c
          · have a2 : ¬ c ≤ 57 := by omega
            by_cases a3 : 97 ≤ c
            · have a4 : ¬ c ≤ 102 := by omega
              clear h1 h2
              go_wp2
              go_ret
              exact ⟨by rw [HN'.out]; rfl, HB.out⟩
            · clear h1 h2
              go_wp2
              go_ret
              exact ⟨by rw [HN'.out]; rfl, HB.out⟩
          · have a3 : ¬ 97 ≤ c := by omega
            clear h1 h2
            go_wp2
            go_ret
            exact ⟨by rw [HN'.out]; rfl, HB.out⟩
    · go_wp2
      go_ret
      exact ⟨by rw [hf.out, allFrom_end (by omega)]; rfl, HB.out⟩

theorem zzisHex_len (s : ByteArray) (n : Int) (w : World) (hq : ((s.size : Int) == wrap64 (2 * n)) = false) :
    Calls Try.prog 13 #[.string s, .int .i64 n] w fun e w' => e = .returned (.bool false) ∧ w' = w := by
  go_enter Try.func13, Try.ntmps13
  go_wp2_with (go_at_call 20; refine (isHex_len s n _ hq).mono ?_; rintro e w' ⟨rfl, rfl⟩)
  go_ret
  exact ⟨rfl, rfl⟩

theorem zzisHex_all (s : ByteArray) (n : Int) (w : World) (hs : s.size ≤ 2097152) (hq : ((s.size : Int) == wrap64 (2 * n)) = true) :
    Calls Try.prog 13 #[.string s, .int .i64 n] w fun e w' => e = .returned (.bool (allHex s)) ∧ Below w.heap.size w w' := by
  go_enter Try.func13, Try.ntmps13
  go_wp2_with (go_at_call 20; refine (isHex_all s n _ hs hq).mono ?_; rintro e w' ⟨rfl, hb⟩)
  go_ret
  exact ⟨rfl, hb⟩

end Go.Proofs.Qxb6602658a
