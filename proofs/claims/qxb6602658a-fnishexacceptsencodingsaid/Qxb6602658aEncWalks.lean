/-
  WALKS: 'FnIsHexAcceptsEncoding' (7).
-/
import Derived.Test.Qxb6602658aHexWalks
import Derived.Laws.CopyOwn
namespace Go.Proofs.Qxb6602658a
open Go.RowKit

/-- WHAT THE WALK IS TOLD OF A SLICE OF INTEGERS THAT CAME IN. -/
def IsRow (k : IntKind) (w : World) (a : Option Addr) (len cap : Nat) (zs : List Int) : Prop :=
  (a = none ∧ len = 0 ∧ cap = 0 ∧ zs = []) ∨
  ∃ x, a = some x ∧ len ≤ cap ∧ cap ≤ maxLen ∧ zs.length = cap ∧ (∀ i, i < zs.length → w.cell? (x.add i) = some (.int k (zs.getD i 0))) ∧ ∀ n ∈ zs, (Lit.int k n).wf = true

/-- The law's state in the loop: the copy's cells (block B), the encoding's cells (block E), the first 2k of them hex digits. -/
def EncAt (wr : World) (B E n k : Nat) (z : Nat → Int) : Prop :=
  (∀ j, j < n → wr.cell? ⟨B, j, none⟩ = some (.int .u8 (z j))) ∧ (∀ j, j < 2 * n → wr.frozen? ⟨E, j, none⟩ = false) ∧
  ∃ e : Nat → Int, (∀ j, j < 2 * n → wr.cell? ⟨E, j, none⟩ = some (.int .u8 (e j))) ∧ ∀ j, j < 2 * k → hexB (e j) = true

theorem bytes17_ok (a : Option Addr) (n c : Nat) (w : World) (hn : n ≤ 1048576) :
    Calls Try.prog 17 #[.slice a n c] w fun e w' => e = .returned (.bool true) ∧ w = w' := by
  go_enter Try.func17, Try.ntmps17
  go_wp2
  go_ret
  exact ⟨rfl, rfl⟩

theorem enc_long (a : Option Addr) (n c : Nat) (w : World) (hm : n ≤ maxLen) (hn : 524288 < n) :
    Calls Try.prog 7 #[.slice a n c] w fun e w' => e = .returned (.bool true) ∧ Below w.heap.size w w' := by
  unfold maxLen at hm
  by_cases h : n ≤ 1048576
  · go_enter Try.func7, Try.ntmps7
    go_wp2_with (go_at_call 17; refine (bytes17_ok _ _ _ _ h).mono ?_; rintro e w' ⟨rfl, rfl⟩)
    go_ret
    exact ⟨rfl, Below.refl _ _⟩
  · go_enter Try.func7, Try.ntmps7
    go_wp2
    go_ret
    exact ⟨rfl, Below.refl _ _⟩

theorem info5 : (Try.prog.info? 5).map (fun i => (i.zero, i.size, i.bytes)) = some (some (.int .u8 0), 1, 1) := by kernel_rfl
theorem size5 : (Try.prog.info? 5).map (·.size) = some 1 := by kernel_rfl

/-- 'make([]byte, n)'. -/
theorem make_bytes (n : Nat) (hn : n ≤ 1048576) (w : World) : (Instr.makeSlice 25 (.int .i64 n) (.int .i64 n)).run Try.prog w = .ok (.slice (some ⟨w.heap.size, 0, none⟩) n n) (w.alloc (.cells (madeCells #[.int .u8 0] n) 5)) := by
  obtain ⟨i, hi, hz, hs, hb⟩ := info_parts info5
  have := run_make (P := Try.prog) w 25 5 i _ Try.underlying25 hi hz .i64 .i64 n n (by omega) (by omega) (by rw [hb]; omega) (by omega)
  simpa [hs, Value.cells] using this

theorem heap_new' (w : World) (o : Obj) : (w.alloc o).heap[w.heap.size]? = some o := by
  show (w.heap.push o)[w.heap.size]? = some o
  simp

/-- 'copy(c, b)' into the row just made: behind it its cells are b's. -/
theorem copy_bytes (w : World) (a : Addr) (n c : Nat) (z : Nat → Int) (hcell : ∀ i, i < n → w.cell? (a.add i) = some (.int .u8 (z i))) :
    ∃ w2, (Builtin.copy_ #[25, 25] 3 #[.slice (some ⟨w.heap.size, 0, none⟩) n n, .slice (some a) n c]).run Try.prog (w.alloc (.cells (madeCells #[.int .u8 0] n) 5)) = .ok (.int .i64 n) w2 ∧
      Below w.heap.size w w2 ∧ w2.heap.size = w.heap.size + 1 ∧ ∀ i, i < n → w2.cell? ⟨w.heap.size, i, none⟩ = some (.int .u8 (z i)) := by
  have hrun := run_copy_row (P := Try.prog) (w.alloc (.cells (madeCells #[.int .u8 0] n) 5)) 25 25 3 5 w.heap.size 0 n n a n c (madeCells #[.int .u8 0] n) 5 ((List.range n).map fun i => Value.int .u8 (z i))
    Try.underlying25 size5 (heap_new' _ _) (by simp) ?_ (by simp [size_madeCells]) (by simp [Value.oneCell'])
  · have e : (List.take 0 (madeCells #[Value.int .u8 0] n).toList ++ (List.range n).map (fun i => Value.int .u8 (z i)) ++ List.drop (0 + ((List.range n).map fun i => Value.int .u8 (z i)).length) (madeCells #[Value.int .u8 0] n).toList).toArray = ((List.range n).map fun i => Value.int .u8 (z i)).toArray := by
      have := size_madeCells #[Value.int .u8 0] n
      simp [List.drop_eq_nil_of_le, this]
    rw [e] at hrun
    have el : ((List.range n).map fun i => Value.int .u8 (z i)).length = n := by simp
    rw [el] at hrun
    refine ⟨_, hrun, below_setRow ((Below.refl _ _).alloc (Nat.le_refl _) _) (Nat.le_refl _) _, by simp [World.setRow], ?_⟩
    intro i hi
    have hg := setRow_heap (w.alloc (.cells (madeCells #[.int .u8 0] n) 5)) w.heap.size (madeCells #[.int .u8 0] n) ((List.range n).map fun i => Value.int .u8 (z i)).toArray 5 (0, 0) (heap_new' _ _)
    simp only [World.cell?]
    rw [hg]
    simp [hi]
  · intro j v hj
    have hjn : j < n := by
      have := (List.getElem?_eq_some_iff.1 hj).1
      simpa using this
    simp [hjn] at hj
    subst hj
    have := hcell j hjn
    rw [← this]
    exact Below.cell (B := w.heap.size) ((Below.refl _ _).alloc (Nat.le_refl _) _) (World.block_lt_of_cell? _ _ this)

/-- The digits of the law's own table are hex digits. -/
theorem digits_hex (i : Nat) (h : i < (⟨#[48, 49, 50, 51, 52, 53, 54, 55, 56, 57, 97, 98, 99, 100, 101, 102]⟩ : ByteArray).size) :
    hexB (((⟨#[48, 49, 50, 51, 52, 53, 54, 55, 56, 57, 97, 98, 99, 100, 101, 102]⟩ : ByteArray)[i]'h).toNat : Int) = true := by
  have key : ∀ i : Fin 16, hexB (((⟨#[48, 49, 50, 51, 52, 53, 54, 55, 56, 57, 97, 98, 99, 100, 101, 102]⟩ : ByteArray)[i.val]'(i.isLt)).toNat : Int) = true := by decide
  exact key ⟨i, h⟩

theorem encAt_start {w2 : World} {B n : Nat} {z : Nat → Int} (hB : B < w2.heap.size) (hc : ∀ i, i < n → w2.cell? ⟨B, i, none⟩ = some (.int .u8 (z i))) :
    EncAt (w2.alloc (.cells (madeCells #[.int .u8 0] (2 * n)) 5)) B w2.heap.size n 0 z := by
  refine ⟨fun j hj => ?_, fun j _ => ?_, fun _ => 0, fun j hj => ?_, fun j hj => by omega⟩
  · rw [World.cell?_alloc_past _ _ _ hB]; exact hc j hj
  · simp only [World.frozen?]
    rw [heap_new' w2]
    simp
  · rw [World.cell?_alloc_at _ _ _ _ rfl]
    simp [madeCells, hj, Nat.mod_one]

theorem encAt_step {wr : World} {B E n k : Nat} {z : Nat → Int} {x y : Int} (hBE : B ≠ E) (h : EncAt wr B E n k z) (hx : hexB x = true) (hy : hexB y = true) :
    EncAt ((wr.setCell ⟨E, 2 * k, none⟩ (.int .u8 x)).setCell ⟨E, 2 * k + 1, none⟩ (.int .u8 y)) B E n (k + 1) z := by
  obtain ⟨hc, hf, e, he, hd⟩ := h
  refine ⟨fun j hj => ?_, fun j hj => ?_, fun j => if j = 2 * k + 1 then y else if j = 2 * k then x else e j, fun j hj => ?_, fun j hj => ?_⟩
  · rw [World.cell?_setCell_other, World.cell?_setCell_other]
    · exact hc j hj
    · intro h; cases h; exact hBE rfl
    · intro h; cases h; exact hBE rfl
  · rw [World.frozen?_setCell, World.frozen?_setCell]; exact hf j hj
  · by_cases e1 : j = 2 * k + 1
    · subst e1
      simp only [if_true]
      refine World.cell?_setCell_same (u := .int .u8 (e (2 * k + 1))) _ _ _ ?_
      rw [World.cell?_setCell_other]
      · exact he _ hj
      · intro h; injection h; omega
    · rw [World.cell?_setCell_other]
      · by_cases e2 : j = 2 * k
        · subst e2
          simp only [e1, if_true, if_false]
          exact World.cell?_setCell_same (u := .int .u8 (e (2 * k))) _ _ _ (he _ hj)
        · simp only [e1, e2, if_false]
          rw [World.cell?_setCell_other]
          · exact he _ hj
          · intro h; injection h; omega
      · intro h; injection h; omega
  · by_cases e1 : j = 2 * k + 1
    · simp [e1, hy]
    · by_cases e2 : j = 2 * k
      · simp [e2, hx]
      · simp only [e1, e2, if_false]; exact hd j (by omega)

/-- 's := string(enc)' at the loop's end: 2n hex digits. -/
theorem encAt_string {wr : World} {B E n : Nat} {z : Nat → Int} (h : EncAt wr B E n n z) :
    ∃ s, (convert 25 9 (.slice (some ⟨E, 0, none⟩) (2 * n) (2 * n))).run Try.prog wr = .ok (.string s) wr ∧ s.size = 2 * n ∧ allHex s = true := by
  obtain ⟨_, _, e, he, hd⟩ := h
  refine ⟨strOfNums ((List.range (2 * n)).map e), run_convert_bytes_arg (P := Try.prog) wr 25 5 Try.underlying25 Try.underlying5 E 0 (2 * n) (2 * n) ((List.range (2 * n)).map e) (by simp) (fun i hi => ?_) 9 Try.underlying9, ?_, ?_⟩
  · rw [Nat.zero_add, he i hi]
    simp [List.getD, hi]
  · rw [strOfNums_size]; simp
  · unfold allHex
    rw [allFrom_iff]
    intro j _ hj
    rw [strOfNums_size] at hj
    simp at hj
    have hx := hd j hj
    have : bt (strOfNums ((List.range (2 * n)).map e)) j = e j := by
      unfold bt
      rw [strOfNums_data]
      simp [List.getD, hj]
      unfold hexB at hx
      have := of_decide_eq_true hx
      omega
    rw [this]
    exact hx

theorem zzisHex_yes (s : ByteArray) (n : Nat) (w : World) (hn : n ≤ 524288) (hs : s.size = 2 * n) (ha : allHex s = true) :
    Calls Try.prog 13 #[.string s, .int .i64 (n : Int)] w fun e w' => e = .returned (.bool true) ∧ Below w.heap.size w w' := by
  have := zzisHex_all s n w (by omega) (by rw [hs]; unfold wrap64; simp; omega)
  rw [ha] at this
  exact this

theorem zzisHex_more (s : ByteArray) (n : Nat) (w : World) (_hn : n ≤ 524288) (hs : s.size = 2 * n) :
    Calls Try.prog 13 #[.string s, .int .i64 ((n : Int) + 1)] w fun e w' => e = .returned (.bool false) ∧ w = w' := by
  refine (zzisHex_len s (n + 1) w (by rw [hs]; unfold wrap64; simp; omega)).mono ?_
  rintro e w' ⟨h1, h2⟩
  exact ⟨h1, h2.symm⟩

set_option maxHeartbeats 1000000 in
theorem enc_any (a : Addr) (n c : Nat) (z : Nat → Int) (w : World) (hn : n ≤ 524288) (hcell : ∀ i, i < n → w.cell? (a.add i) = some (.int .u8 (z i))) (hz : ∀ i, i < n → 0 ≤ z i ∧ z i ≤ 255) :
    Calls Try.prog 7 #[.slice (some a) n c] w fun e w' => e = .returned (.bool true) ∧ Below w.heap.size w w' := by
  have hne := fun w => run_neq_slice_nil_any (P := Try.prog) w 25 5 (some a) n c 0 0 Try.underlying25
  have hmk := make_bytes n (by omega)
  have hmk2 : ∀ w, (Instr.makeSlice 25 (.int .i64 (2 * (n : Int))) (.int .i64 (2 * (n : Int)))).run Try.prog w = .ok (.slice (some ⟨w.heap.size, 0, none⟩) (2 * n) (2 * n)) (w.alloc (.cells (madeCells #[.int .u8 0] (2 * n)) 5)) := by
    intro w
    have := make_bytes (2 * n) (by omega) w
    simpa using this
  obtain ⟨w2, hcp, hb2, hs2, hc2⟩ := copy_bytes w a n c z hcell
  have HB : Hid (Below w.heap.size w w2 ∧ w2.heap.size = w.heap.size + 1 ∧ ∀ i, i < n → w2.cell? ⟨w.heap.size, i, none⟩ = some (.int .u8 (z i))) := ⟨hb2, hs2, hc2⟩
  have HZ : Hid (∀ i, i < n → 0 ≤ z i ∧ z i ≤ 255) := hz
  clear hb2 hc2 hs2 hcell hz
  go_enter Try.func7, Try.ntmps7
  go_wp2_with (go_at_call 17; refine (bytes17_ok _ _ _ _ (by omega)).mono ?_; rintro e w' ⟨rfl, rfl⟩)
  go_loopw [5] (fun i wr => ∃ k : Nat, k ≤ n ∧ i = .int .i64 k ∧ Hid (Below w.heap.size w wr ∧ EncAt wr w.heap.size w2.heap.size n k z)) (fun i _ => n - (intOf i).toNat)
  case atStart => exact ⟨0, Nat.zero_le _, rfl, HB.out.1.alloc HB.out.1.size _, encAt_start (by have := HB.out.2.1; omega) HB.out.2.2⟩
  case round =>
    obtain ⟨k, hk, rfl, hrel⟩ := hrel
    by_cases hlt : k < n
    · obtain ⟨hb, hc, hf, e, he, hx⟩ := hrel.out
      have c1 := hc k hlt
      have f1 := hf (2 * k) (by omega)
      have f2 := hf (2 * k + 1) (by omega)
      have c2 := he (2 * k) (by omega)
      have c3 := he (2 * k + 1) (by omega)
      obtain ⟨z0, z1⟩ := HZ.out k hlt
      generalize z k = d at c1 z0 z1
      have hBE : w.heap.size ≠ w2.heap.size := by have := HB.out.2.1; omega
      have hBE' : w.heap.size ≤ w2.heap.size := by have := HB.out.2.1; omega
      clear hb hc hf he hx
      go_wp2
      go_roundw
      case rel => exact ⟨k + 1, by omega, by go_num, (hrel.out.1.setCell hBE' _).setCell hBE' _, encAt_step hBE hrel.out.2 (digits_hex _ _) (digits_hex _ _)⟩
      case measure => simp [intOf]; omega
    · obtain rfl : k = n := by omega
      obtain ⟨s, hcv, hs, ha⟩ := encAt_string hrel.out.2
      have HS : Hid (s.size = 2 * k ∧ allHex s = true) := ⟨hs, ha⟩
      clear hs ha
      go_wp2_with fail
      refine (zzisHex_yes s k _ hn HS.out.1 HS.out.2).mono ?_
      rintro e w3 ⟨rfl, hb3⟩
      go_wp2_with fail
      refine (zzisHex_more s k _ hn HS.out.1).mono ?_
      rintro e w4 ⟨rfl, rfl⟩
      go_wp2_with fail
      go_ret
      exact ⟨rfl, hrel.out.1.trans (hb3.mono hrel.out.1.size)⟩

set_option maxHeartbeats 1000000 in
theorem enc_nil (w : World) : Calls Try.prog 7 #[.slice none 0 0] w fun e w' => e = .returned (.bool true) ∧ Below w.heap.size w w' := by
  have hne := fun w => run_neq_slice_nil_any (P := Try.prog) w 25 5 none 0 0 0 0 Try.underlying25
  have hmk : ∀ w, (Instr.makeSlice 25 (.int .i64 0) (.int .i64 0)).run Try.prog w = .ok (.slice (some ⟨w.heap.size, 0, none⟩) 0 0) (w.alloc (.cells (madeCells #[.int .u8 0] 0) 5)) := by
    intro w
    have := make_bytes 0 (by omega) w
    simpa using this
  have hcv : ∀ wx, (convert 25 9 (.slice (some ⟨w.heap.size, 0, none⟩) 0 0)).run Try.prog wx = .ok (.string (strOfNums [])) wx := fun wx =>
    run_convert_bytes_arg (P := Try.prog) wx 25 5 Try.underlying25 Try.underlying5 w.heap.size 0 0 0 [] rfl (fun i hi => by omega) 9 Try.underlying9
  go_enter Try.func7, Try.ntmps7
  go_wp2_with (go_at_call 17; refine (bytes17_ok _ _ _ _ (by omega)).mono ?_; rintro e w' ⟨rfl, rfl⟩)
  refine wp_loop_rounds 1 ?_; rw [rounds_succ]
  go_wp2_with fail
  refine (zzisHex_yes (strOfNums []) 0 _ (by omega) rfl rfl).mono ?_
  rintro e w3 ⟨rfl, hb3⟩
  go_wp2_with fail
  refine (zzisHex_more (strOfNums []) 0 _ (by omega) rfl).mono ?_
  rintro e w4 ⟨rfl, rfl⟩
  go_wp2_with fail
  go_ret
  exact ⟨rfl, ((Below.refl _ _).alloc (Nat.le_refl _) _).trans (hb3.mono (by simp))⟩

end Go.Proofs.Qxb6602658a
