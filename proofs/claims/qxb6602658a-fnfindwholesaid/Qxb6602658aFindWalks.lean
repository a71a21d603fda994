/-
  WALKS for FnFindWhole: '(idIndex).find' (22), 'ZZfind' (18), 'FnFindWhole' (8).
-/
import Derived.Test.Qxb6602658aRows
import Derived.WalkKit
import Derived.WalkSpells
import Derived.WalkLawsBesides
import Derived.Maps.OwnSet
import Derived.Laws.CopyOwn
namespace Go.Proofs.Qxb6602658a
open Go.RowKit

/-- The plain function: the first hit among places k, k+1, .., k+m-1. -/
def firstHit (v : Nat → Int) (ok : Nat → Bool) : Nat → Nat → Int × Bool
  | _, 0 => (0, false)
  | k, m + 1 => if ok k = true then (v k, true) else firstHit v ok (k + 1) m

theorem firstHit_yes {v : Nat → Int} {ok : Nat → Bool} {k n : Nat} (hk : k < n) (h : ok k = true) : firstHit v ok k (n - k) = (v k, true) := by
  obtain ⟨m, hm⟩ : ∃ m, n - k = m + 1 := ⟨n - k - 1, by omega⟩
  rw [hm]; simp [firstHit, h]
theorem firstHit_no {v : Nat → Int} {ok : Nat → Bool} {k n : Nat} (hk : k < n) (h : ok k = false) : firstHit v ok k (n - k) = firstHit v ok (k + 1) (n - (k + 1)) := by
  obtain ⟨m, hm⟩ : ∃ m, n - k = m + 1 := ⟨n - k - 1, by omega⟩
  rw [hm, show n - (k + 1) = m by omega]; simp [firstHit, h]
theorem firstHit_end {v : Nat → Int} {ok : Nat → Bool} {k n : Nat} (hk : n ≤ k) : firstHit v ok k (n - k) = (0, false) := by
  rw [show n - k = 0 by omega]; rfl

/-- What the walk is told of the slice of maps in world w: cell i holds a map at which the look-up of 'id' answers (v i, ok i). -/
def Looks (w : World) (b n : Nat) (m : Nat → Option Nat) (id : ByteArray) (v : Nat → Int) (ok : Nat → Bool) : Prop :=
  ∀ i, i < n → w.cell? ⟨b, i, none⟩ = some (.map (m i)) ∧ (Instr.lookup 31 (.map (m i)) (.string id) true).run Try.prog w = .ok (.tuple #[.int .i64 (v i), .bool (ok i)]) w

set_option maxHeartbeats 400000 in
theorem find_any (b n c : Nat) (m : Nat → Option Nat) (id : ByteArray) (v : Nat → Int) (ok : Nat → Bool) (w : World) (hn : n ≤ 65536) (hl : Looks w b n m id v ok) :
    Calls Try.prog 22 #[.slice (some ⟨b, 0, none⟩) n c, .string id] w fun e w' => e = .returned (.tuple #[.int .i64 (firstHit v ok 0 n).1, .bool (firstHit v ok 0 n).2]) ∧ w' = w := by
  go_enter Try.func22, Try.ntmps22
  go_wp2
  go_loop [12] (fun i => ∃ k : Nat, k ≤ n ∧ i = .int .i64 k ∧ Hid (firstHit v ok 0 n = firstHit v ok k (n - k))) (fun i => n - (intOf i).toNat)
  case atStart => exact ⟨0, Nat.zero_le _, rfl, rfl⟩
  case round =>
    obtain ⟨k, hk, rfl, hf⟩ := hrel
    by_cases hlt : k < n
    · obtain ⟨hc, hr⟩ := hl k hlt
      cases hok : ok k
      · rw [hok] at hr
        go_wp2
        go_round
        case rel => exact ⟨k + 1, by omega, by go_num, hf.out.trans (firstHit_no hlt hok)⟩
        case measure => simp [intOf]; omega
      · rw [hok] at hr
        go_wp2
        go_ret2
        rw [hf.out, firstHit_yes hlt hok]
        exact ⟨rfl, rfl⟩
    · go_wp2
      go_ret2
      rw [hf.out, firstHit_end (by omega)]
      exact ⟨rfl, rfl⟩

theorem find_nil (id : ByteArray) (w : World) :
    Calls Try.prog 22 #[.slice none 0 0, .string id] w fun e w' => e = .returned (.tuple #[.int .i64 0, .bool false]) ∧ w' = w := by
  go_enter Try.func22, Try.ntmps22
  go_wp2
  refine wp_loop_rounds 1 ?_; rw [rounds_succ]
  go_wp2
  go_ret2
  exact ⟨rfl, rfl⟩

theorem zzfind_any (b n c : Nat) (m : Nat → Option Nat) (id : ByteArray) (v : Nat → Int) (ok : Nat → Bool) (w : World) (hn : n ≤ 65536) (hl : Looks w b n m id v ok) :
    Calls Try.prog 18 #[.slice (some ⟨b, 0, none⟩) n c, .string id] w fun e w' => e = .returned (.tuple #[.int .i64 (firstHit v ok 0 n).1, .bool (firstHit v ok 0 n).2]) ∧ w' = w := by
  go_enter Try.func18, Try.ntmps18
  go_wp2_with (go_at_call 22; refine (find_any b n c m id v ok _ hn hl).mono ?_; rintro e w' ⟨rfl, rfl⟩)
  go_ret2
  exact ⟨rfl, rfl⟩

theorem zzfind_nil (id : ByteArray) (w : World) :
    Calls Try.prog 18 #[.slice none 0 0, .string id] w fun e w' => e = .returned (.tuple #[.int .i64 0, .bool false]) ∧ w' = w := by
  go_enter Try.func18, Try.ntmps18
  go_wp2_with (go_at_call 22; refine (find_nil id _).mono ?_; rintro e w' ⟨rfl, rfl⟩)
  go_ret2
  exact ⟨rfl, rfl⟩


theorem cells28 : Try.prog.cellsOf 31 = 1 := by kernel_rfl
theorem info31 : (Try.prog.info? 31).map (fun i => (i.zero, i.size, i.bytes)) = some (some (.map none), 1, 8) := by kernel_rfl

theorem size31 : (Try.prog.info? 31).map (·.size) = some 1 := by kernel_rfl

/-- One of the three bounds is broken: true at once. -/
theorem whole_long (a : Option Addr) (n c : Nat) (id : ByteArray) (w : World) (hn : n ≤ maxLen) (hs : id.size ≤ maxLen) (h : 65536 < n ∨ 1048576 < id.size ∨ 1048576 < 8 * n + id.size) :
    Calls Try.prog 8 #[.slice a n c, .string id] w fun e w' => e = .returned (.bool true) ∧ Below w.heap.size w w' := by
  unfold maxLen at hn hs
  by_cases h1 : 65536 < n
  · go_enter Try.func8, Try.ntmps8
    go_wp2
    go_ret
    exact ⟨rfl, Below.refl _ _⟩
  · by_cases h2 : 1048576 < id.size
    · go_enter Try.func8, Try.ntmps8
      go_wp2
      go_ret
      exact ⟨rfl, Below.refl _ _⟩
    · have h3 : 1048576 < 8 * n + id.size := by omega
      clear h
      go_enter Try.func8, Try.ntmps8
      go_wp2
      go_ret
      exact ⟨rfl, Below.refl _ _⟩

theorem whole_nil (id : ByteArray) (w : World) (h2 : id.size ≤ 1048576) :
    Calls Try.prog 8 #[.slice none 0 0, .string id] w fun e w' => e = .returned (.bool true) ∧ Below w.heap.size w w' := by
  have hne := fun w => run_neq_slice_nil_any (P := Try.prog) w 28 31 none 0 0 0 0 Try.underlying28
  go_enter Try.func8, Try.ntmps8
  go_wp2_with (go_at_call 18; refine (zzfind_nil id _).mono ?_; rintro e w' ⟨rfl, rfl⟩)
  refine wp_loop_rounds 1 ?_; rw [rounds_succ]
  go_wp2
  go_ret
  exact ⟨rfl, Below.refl _ _⟩


theorem heap_new (w : World) (o : Obj) : (w.alloc o).heap[w.heap.size]? = some o := by
  show (w.heap.push o)[w.heap.size]? = some o
  simp

theorem cell_lt {w : World} {p : Addr} {v : Value} (h : w.cell? p = some v) : p.block < w.heap.size := by
  by_cases hlt : p.block < w.heap.size
  · exact hlt
  · simp [World.cell?, Array.getElem?_eq_none (Nat.le_of_not_lt hlt)] at h

/-- 'copy(c, x)' into the row just made: behind it its cells are x's. -/
theorem copy_made (w : World) (a : Addr) (n c : Nat) (m : Nat → Option Nat) (hcell : ∀ i, i < n → w.cell? (a.add i) = some (.map (m i))) :
    ∃ w2, (Builtin.copy_ #[28, 28] 3 #[.slice (some ⟨w.heap.size, 0, none⟩) n n, .slice (some a) n c]).run Try.prog (w.alloc (.cells (madeCells #[.map none] n) 31)) = .ok (.int .i64 n) w2 ∧
      Below w.heap.size w w2 ∧ ∀ i, i < n → w2.cell? ⟨w.heap.size, i, none⟩ = some (.map (m i)) := by
  have hrun := run_copy_row (P := Try.prog) (w.alloc (.cells (madeCells #[.map none] n) 31)) 28 28 3 31 w.heap.size 0 n n a n c (madeCells #[.map none] n) 31 ((List.range n).map fun i => Value.map (m i))
    Try.underlying28 size31 (heap_new _ _) (by simp) ?_ (by simp [size_madeCells]) (by simp [Value.oneCell'])
  · have e : (List.take 0 (madeCells #[Value.map none] n).toList ++ (List.range n).map (fun i => Value.map (m i)) ++ List.drop (0 + ((List.range n).map fun i => Value.map (m i)).length) (madeCells #[Value.map none] n).toList).toArray = ((List.range n).map fun i => Value.map (m i)).toArray := by
      have := size_madeCells #[Value.map none] n
      simp [List.drop_eq_nil_of_le, this]
    rw [e] at hrun
    have el : ((List.range n).map fun i => Value.map (m i)).length = n := by simp
    rw [el] at hrun
    refine ⟨_, hrun, below_setRow ((Below.refl _ _).alloc (Nat.le_refl _) _) (Nat.le_refl _) _, ?_⟩
    intro i hi
    have hg := setRow_heap (w.alloc (.cells (madeCells #[.map none] n) 31)) w.heap.size (madeCells #[.map none] n) ((List.range n).map fun i => Value.map (m i)).toArray 31 (0, 0) (heap_new _ _)
    simp only [World.cell?]
    rw [hg]
    simp [hi]
  · intro j v hj
    have hjn : j < n := by
      have := (List.getElem?_eq_some_iff.1 hj).1
      simpa using this
    simp [hjn] at hj
    subst hj
    have := hcell j hjn
    rw [← this]
    exact Below.cell (B := w.heap.size) ((Below.refl _ _).alloc (Nat.le_refl _) _) (cell_lt this)

set_option maxHeartbeats 1000000 in
theorem whole_any (a : Addr) (n c : Nat) (m : Nat → Option Nat) (id : ByteArray) (v : Nat → Int) (ok : Nat → Bool) (w : World) (h1 : n ≤ 65536) (h2 : id.size ≤ 1048576) (h3 : 8 * n + id.size ≤ 1048576)
    (hcell : ∀ i, i < n → w.cell? (a.add i) = some (.map (m i)))
    (hlook : ∀ wx, Below w.heap.size w wx → ∀ i, i < n → (Instr.lookup 31 (.map (m i)) (.string id) true).run Try.prog wx = .ok (.tuple #[.int .i64 (v i), .bool (ok i)]) wx) :
    Calls Try.prog 8 #[.slice (some a) n c, .string id] w fun e w' => e = .returned (.bool true) ∧ Below w.heap.size w w' := by
  have hne := fun w => run_neq_slice_nil_any (P := Try.prog) w 28 31 (some a) n c 0 0 Try.underlying28
  obtain ⟨i31, hi31, hz31, hs31, hb31⟩ := info_parts info31
  have hmk : ∀ w, (Instr.makeSlice 28 (.int .i64 n) (.int .i64 n)).run Try.prog w = .ok (.slice (some ⟨w.heap.size, 0, none⟩) n n) (w.alloc (.cells (madeCells #[.map none] n) 31)) := by
    intro w
    have := run_make (P := Try.prog) w 28 31 i31 _ Try.underlying28 hi31 hz31 .i64 .i64 n n (by omega) (by omega) (by rw [hb31]; omega) (by omega)
    simpa [hs31, Value.cells] using this
  clear hi31 hz31 hs31 hb31
  obtain ⟨w2, hcp, hb2, hc2⟩ := copy_made w a n c m hcell
  have hl : Looks w2 w.heap.size n m id v ok := fun i hi => ⟨hc2 i hi, hlook w2 hb2 i hi⟩
  have HB : Hid (Below w.heap.size w w2) := hb2
  have HL : Hid (Looks w2 w.heap.size n m id v ok) := hl
  clear hb2 hc2 hlook hl hcell
  go_enter Try.func8, Try.ntmps8
  go_wp2_with (go_at_call 18; refine (zzfind_any _ n n m id v ok _ h1 HL.out).mono ?_; rintro e w' ⟨rfl, rfl⟩)
  go_loop [8, 9, 10] (fun f x t => ∃ k : Nat, k ≤ n ∧ t = .int .i64 ((k : Int) - 1) ∧ f = .bool (firstHit v ok k (n - k)).2 ∧ x = .int .i64 (firstHit v ok k (n - k)).1) (fun _ _ t => (intOf t + 1).toNat)
  case atStart => exact ⟨n, Nat.le_refl _, rfl, by rw [firstHit_end (Nat.le_refl _)], by rw [firstHit_end (Nat.le_refl _)]⟩
  case round =>
    obtain ⟨k, hk, rfl, rfl, rfl⟩ := hrel
    cases k with
    | zero =>
      go_wp2
      go_ret
      exact ⟨by simp, HB.out⟩
    | succ k =>
      obtain ⟨hc, hr⟩ := HL.out k (by omega)
      cases hok : ok k
      · rw [hok] at hr
        have e := firstHit_no (v := v) (n := n) (by omega) hok
        rw [← e]
        go_wp2
        go_round
        case rel => exact ⟨k, by omega, by go_num, rfl, rfl⟩
        case measure => simp [intOf]
      · rw [hok] at hr
        have e := firstHit_yes (v := v) (n := n) (by omega) hok
        go_wp2
        go_round
        case rel => exact ⟨k, by omega, by go_num, by rw [e], by rw [e]⟩
        case measure => simp [intOf]

end Go.Proofs.Qxb6602658a
