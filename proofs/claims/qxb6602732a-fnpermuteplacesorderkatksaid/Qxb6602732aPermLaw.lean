/-
  WALKS: the law 'FnPermutePlacesOrderKAtK' (7) and its bound (20).
-/
import Derived.Test.Qxb6602732aPermNames
import Derived.Test.Qxb6602732aPermAsk
import Derived.Deep.QuietTactic
import Derived.BigQuiet
namespace Go.Proofs.Qxb6602732a
open Go.RowKit

/-! ### No names at all -/
theorem permute_zero (a : Option Addr) (c : Nat) (a2 : Option Addr) (m c2 : Nat) (w : World) :
    Calls Try.prog 27 #[.slice a 0 c, .slice a2 m c2] w fun e w' => e = .returned (.tuple #[]) ∧ w = w' := by
  go_enter Try.func27, Try.ntmps27
  go_wp2
  refine wp_loop_rounds 1 ?_; rw [rounds_succ]
  go_wp2
  go_end0
  exact ⟨rfl, rfl⟩

set_option maxHeartbeats 1000000 in
theorem names_zero (a a2 : Option Addr) (c m c2 : Nat) (w : World) :
    Calls Try.prog 23 #[.slice a 0 c, .slice a2 m c2] w fun e w' => (∃ a', e = .returned (.slice a' 0 0)) ∧ Below w.heap.size w w' := by
  have hmk : ∀ w, (Instr.makeSlice 47 (.int .i64 0) (.int .i64 0)).run Try.prog w = .ok (.slice (some ⟨w.heap.size, 0, none⟩) 0 0) (w.alloc (.cells (madeCells (ecells ByteArray.empty).toArray (0 * 11)) 54)) := by
    intro w
    have := make_entries 0 (by omega) w
    simpa using this
  have hms : ∀ w, (Instr.makeSlice 37 (.int .i64 0) (.int .i64 0)).run Try.prog w = .ok (.slice (some ⟨w.heap.size, 0, none⟩) 0 0) (w.alloc (.cells (madeCells #[.string ByteArray.empty] 0) 9)) := by
    intro w
    have := make_strings 0 (by omega) w
    simpa using this
  go_enter Try.func23, Try.ntmps23
  go_wp2
  refine wp_loop_rounds 1 ?_; rw [rounds_succ]
  go_wp2_with fail
  refine (permute_zero _ _ _ _ _ _).mono ?_
  rintro e w' ⟨rfl, rfl⟩
  go_wp2_with fail
  refine wp_loop_rounds 1 ?_; rw [rounds_succ]
  go_wp2
  go_ret
  exact ⟨⟨_, rfl⟩, ((Below.refl _ _).alloc (Nat.le_refl _) _).alloc (by simp) _⟩

/-! ### The bound's function: some bool, no more is wanted. -/
def BoolAns (e : Ending) : Prop := ∃ r : Bool, e = .returned (.bool r)

theorem bytes20_zero (a : Option Addr) (c : Nat) (a2 : Option Addr) (m c2 : Nat) (w : World) (hm : m ≤ maxLen) :
    Calls Try.prog 20 #[.slice a 0 c, .slice a2 m c2] w fun e w' => BoolAns e ∧ w = w' := by
  unfold maxLen at hm
  go_enter Try.func20, Try.ntmps20
  go_wp2
  refine wp_loop_rounds 1 ?_; rw [rounds_succ]
  go_wp2
  all_goals (go_ret; exact ⟨⟨_, rfl⟩, rfl⟩)

set_option maxHeartbeats 1000000 in
theorem bytes20_any (b off n c : Nat) (s : Nat → ByteArray) (a2 : Option Addr) (m c2 : Nat) (w : World) (_hm : m ≤ maxLen) (hn : n ≤ maxLen) (hs : ∀ i, i < n → w.cell? ⟨b, off + i, none⟩ = some (.string (s i)) ∧ (s i).size ≤ maxLen) :
    Calls Try.prog 20 #[.slice (some ⟨b, off, none⟩) n c, .slice a2 m c2] w fun e w' => BoolAns e ∧ w = w' := by
  have HS : Hid (∀ i, i < n → w.cell? ⟨b, off + i, none⟩ = some (.string (s i)) ∧ (s i).size ≤ maxLen) := hs
  clear hs
  unfold maxLen at _hm hn
  by_cases hbig : 1048576 < n
  · go_enter Try.func20, Try.ntmps20
    go_wp2
    go_ret
    exact ⟨⟨_, rfl⟩, rfl⟩
  · go_enter Try.func20, Try.ntmps20
    go_wp2
    go_loop [5, 6] (fun z i => ∃ (k : Nat) (v : Int), k ≤ n ∧ i = .int .i64 k ∧ z = .int .i64 v) (fun _ i => n - (intOf i).toNat)
    case atStart => exact ⟨0, _, Nat.zero_le _, rfl, rfl⟩
    case round =>
      obtain ⟨k, v, hk, rfl, rfl⟩ := hrel
      by_cases hlt : k < n
      · obtain ⟨c0, hz⟩ := HS.out k hlt
        unfold maxLen at hz
        generalize s k = q at c0 hz
        go_wp2
        · go_ret
          exact ⟨⟨_, rfl⟩, rfl⟩
        · go_ret
          exact ⟨⟨_, rfl⟩, rfl⟩
        · go_round
          case rel => exact ⟨k + 1, _, by omega, by go_num, rfl⟩
          case measure => simp [intOf]; omega
      · go_wp2
        all_goals (go_ret; exact ⟨⟨_, rfl⟩, rfl⟩)

/-! ### The law -/
theorem retb7 {a b : Bool} (h : a = b) : Ending.returned (.bool a) = .returned (.bool b) := by rw [h]

set_option maxHeartbeats 1000000 in
/-- More than 64 names, or an order too long: true at once. -/
theorem law7_long (b off n c : Nat) (s : Nat → ByteArray) (a2 : Option Addr) (m c2 : Nat) (w : World) (hm : m ≤ maxLen) (hn : n ≤ maxLen) (hs : ∀ i, i < n → w.cell? ⟨b, off + i, none⟩ = some (.string (s i)) ∧ (s i).size ≤ maxLen) (h : 64 < n ∨ 1048576 < m) :
    Calls Try.prog 7 #[.slice (some ⟨b, off, none⟩) n c, .slice a2 m c2] w fun e w' => e = .returned (.bool true) ∧ Below w.heap.size w w' := by
  have HB := (show Hid (Calls Try.prog 20 #[.slice (some ⟨b, off, none⟩) n c, .slice a2 m c2] w fun e w' => BoolAns e ∧ w = w') from bytes20_any b off n c s a2 m c2 w hm hn hs)
  clear hs
  unfold maxLen at hm hn
  by_cases h1 : 64 < n
  · clear h
    go_enter Try.func7, Try.ntmps7
    go_wp2_with (go_at_call 20; refine (HB.out).mono ?_; rintro e w' ⟨⟨r, rfl⟩, rfl⟩)
    all_goals (go_ret; exact ⟨rfl, Below.refl _ _⟩)
  · have h2 : 1048576 < m := by omega
    clear h
    go_enter Try.func7, Try.ntmps7
    go_wp2_with (go_at_call 20; refine (HB.out).mono ?_; rintro e w' ⟨⟨r, rfl⟩, rfl⟩)
    all_goals (go_ret; exact ⟨rfl, Below.refl _ _⟩)

set_option maxHeartbeats 2000000 in
theorem law7_zero (a : Option Addr) (c : Nat) (a2 : Option Addr) (m c2 : Nat) (zs : List Int) (w : World) (hm : m ≤ maxLen) (hrow : IsRow .u8 w a2 m c2 zs) :
    Calls Try.prog 7 #[.slice a 0 c, .slice a2 m c2] w fun e w' => e = .returned (.bool true) ∧ Below w.heap.size w w' := by
  have HB := (show Hid (Calls Try.prog 20 #[.slice a 0 c, .slice a2 m c2] w fun e w' => BoolAns e ∧ w = w') from bytes20_zero a c a2 m c2 w hm)
  have HR : Hid (IsRow .u8 w a2 m c2 zs) := hrow
  clear hrow
  unfold maxLen at hm
  by_cases h2 : 1048576 < m
  · go_enter Try.func7, Try.ntmps7
    go_wp2_with (go_at_call 20; refine (HB.out).mono ?_; rintro e w' ⟨⟨r, rfl⟩, rfl⟩)
    all_goals (go_ret; exact ⟨rfl, Below.refl _ _⟩)
  · go_enter Try.func7, Try.ntmps7
    go_wp2_with (go_at_call 20; refine (HB.out).mono ?_; rintro e w' ⟨⟨r, rfl⟩, rfl⟩; cases r)
    · go_ret
      exact ⟨rfl, Below.refl _ _⟩
    · refine wp_loop_rounds 1 ?_; rw [rounds_succ]
      go_wp2_with fail
      refine (ask_zero a2 m c2 (fun _ => 0) _).mono ?_
      rintro e w1 ⟨⟨r, rfl, _⟩, hb1⟩
      have HB1 : Hid (Below w.heap.size w w1) := hb1
      clear hb1
      cases r
      · go_wp2_with fail
        go_ret
        exact ⟨rfl, HB1.out⟩
      · go_wp2_with fail
        refine (sclone_zero a c _).mono ?_
        rintro e w2 ⟨⟨p, rfl⟩, hb2⟩
        have HB2 : Hid (Below w.heap.size w w2) := HB1.out.trans (hb2.mono HB1.out.size)
        clear hb2
        go_wp2_with fail
        refine (clone_row a2 m c2 zs _ (by omega) (HR.out.later HB2.out)).mono ?_
        rintro e w3 ⟨p2, rfl, hb3, _⟩
        have HB3 : Hid (Below w.heap.size w w3) := HB2.out.trans (hb3.mono HB2.out.size)
        clear hb3
        go_wp2_with fail
        refine (names_zero p p2 0 m m _).mono ?_
        rintro e w4 ⟨⟨p4, rfl⟩, hb4⟩
        have HB4 : Hid (Below w.heap.size w w4) := HB3.out.trans (hb4.mono HB3.out.size)
        clear hb4
        go_wp2_with fail
        refine wp_loop_rounds 1 ?_; rw [rounds_succ]
        go_wp2
        go_ret
        exact ⟨rfl, HB4.out⟩

end Go.Proofs.Qxb6602732a
