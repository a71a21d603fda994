/-
  WALKS: 'cloneBytes' (10).
-/
import Derived.Test.Qxb6602732aRows
import Derived.WalkKit
import Derived.WalkSpells
import Derived.WalkLawsBesides
namespace Go.Proofs.Qxb6602732a
open Go.RowKit

theorem info5 : (Try.prog.info? 5).map (fun i => (i.zero, i.size, i.bytes)) = some (some (.int .u8 0), 1, 1) := by kernel_rfl

/-- 'make([]byte, n)'. -/
theorem make_bytes (n : Nat) (hn : n ≤ 2097152) (w : World) : (Instr.makeSlice 22 (.int .i64 n) (.int .i64 n)).run Try.prog w = .ok (.slice (some ⟨w.heap.size, 0, none⟩) n n) (w.alloc (.cells (madeCells #[.int .u8 0] n) 5)) := by
  obtain ⟨i, hi, hz, hs, hb⟩ := info_parts info5
  have := run_make (P := Try.prog) w 22 5 i _ Try.underlying22 hi hz .i64 .i64 n n (by omega) (by omega) (by rw [hb]; omega) (by omega)
  simpa [hs, Value.cells] using this

theorem heap_new (w : World) (o : Obj) : (w.alloc o).heap[w.heap.size]? = some o := by
  show (w.heap.push o)[w.heap.size]? = some o
  simp

/-- Block B's first k of n cells are z's; all n are there and may be written. -/
def CloneAt (wr : World) (B n k : Nat) (z : Nat → Int) : Prop :=
  (∀ j, j < n → wr.frozen? ⟨B, j, none⟩ = false) ∧ (∀ j, j < n → ∃ v, wr.cell? ⟨B, j, none⟩ = some v) ∧ ∀ j, j < k → wr.cell? ⟨B, j, none⟩ = some (.int .u8 (z j))

theorem cloneAt_start (w : World) (n : Nat) (z : Nat → Int) : CloneAt (w.alloc (.cells (madeCells #[.int .u8 0] n) 5)) w.heap.size n 0 z := by
  refine ⟨fun j _ => ?_, fun j hj => ?_, fun j hj => by omega⟩
  · simp only [World.frozen?]
    rw [heap_new w]
    simp
  · rw [World.cell?_alloc_at _ _ _ _ rfl]
    simp [madeCells, hj]

theorem cloneAt_step {wr : World} {B n k : Nat} {z : Nat → Int} (hk : k < n) (h : CloneAt wr B n k z) : CloneAt (wr.setCell ⟨B, k, none⟩ (.int .u8 (z k))) B n (k + 1) z := by
  obtain ⟨hf, hc, hz⟩ := h
  refine ⟨fun j hj => ?_, fun j hj => ?_, fun j hj => ?_⟩
  · rw [World.frozen?_setCell]; exact hf j hj
  · obtain ⟨v, hv⟩ := hc j hj
    exact cell?_setCell_some hv
  · by_cases e : j = k
    · subst e
      obtain ⟨v, hv⟩ := hc j hk
      exact World.cell?_setCell_same (u := v) _ _ _ hv
    · rw [World.cell?_setCell_other]
      · exact hz j (by omega)
      · intro h; injection h; omega

/-- WHAT THE WALK IS TOLD OF A SLICE OF INTEGERS THAT CAME IN. -/
def IsRow (k : IntKind) (w : World) (a : Option Addr) (len cap : Nat) (zs : List Int) : Prop :=
  (a = none ∧ len = 0 ∧ cap = 0 ∧ zs = []) ∨
  ∃ x, a = some x ∧ len ≤ cap ∧ cap ≤ maxLen ∧ zs.length = cap ∧ (∀ i, i < zs.length → w.cell? (x.add i) = some (.int k (zs.getD i 0))) ∧ ∀ n ∈ zs, (Lit.int k n).wf = true

/-- It stays so in every later world. -/
theorem IsRow.later {k : IntKind} {w w' : World} {a : Option Addr} {len cap : Nat} {zs : List Int} (h : IsRow k w a len cap zs) (hb : Below w.heap.size w w') : IsRow k w' a len cap zs := by
  rcases h with h | ⟨x, rfl, h1, h2, h3, h4, h5⟩
  · exact .inl h
  · refine .inr ⟨x, rfl, h1, h2, h3, fun i hi => ?_, h5⟩
    have := h4 i hi
    rw [hb.cell (World.block_lt_of_cell? _ _ this)]
    exact this

/-- WHAT A CLONE IS: nil, or a row of its own from place 0 on. -/
def CopyOf (w : World) (a : Option Addr) (n : Nat) (z : Nat → Int) : Prop :=
  (a = none ∧ n = 0) ∨ ∃ b, a = some ⟨b, 0, none⟩ ∧ b < w.heap.size ∧ ∀ j, j < n → w.cell? ⟨b, j, none⟩ = some (.int .u8 (z j))

theorem CopyOf.later {w w' : World} {a : Option Addr} {n : Nat} {z : Nat → Int} (h : CopyOf w a n z) (hb : Below w.heap.size w w') : CopyOf w' a n z := by
  rcases h with h | ⟨b, rfl, h1, h2⟩
  · exact .inl h
  · exact .inr ⟨b, rfl, Nat.lt_of_lt_of_le h1 hb.size, fun j hj => by rw [hb.cell (p := ⟨b, j, none⟩) h1]; exact h2 j hj⟩

set_option maxHeartbeats 1000000 in
theorem clone_pos (b off n c : Nat) (z : Nat → Int) (w : World) (hn : n ≤ 1048576) (hz : ∀ i, i < n → w.cell? ⟨b, off + i, none⟩ = some (.int .u8 (z i))) :
    Calls Try.prog 10 #[.slice (some ⟨b, off, none⟩) n c] w fun e w' => e = .returned (.slice (some ⟨w.heap.size, 0, none⟩) n n) ∧ Below w.heap.size w w' ∧ ∀ j, j < n → w'.cell? ⟨w.heap.size, j, none⟩ = some (.int .u8 (z j)) := by
  have hne := fun w => Lib.run_eql_slice_nil (P := Try.prog) w 22 5 (some ⟨b, off, none⟩) n c 0 0 Try.underlying22
  have hmk := make_bytes n (by omega)
  have HZ : Hid (∀ i, i < n → w.cell? ⟨b, off + i, none⟩ = some (.int .u8 (z i))) := hz
  clear hz
  go_enter Try.func10, Try.ntmps10
  go_wp2
  go_loopw [4] (fun i wr => ∃ k : Nat, k ≤ n ∧ i = .int .i64 k ∧ Hid (Below w.heap.size w wr ∧ CloneAt wr w.heap.size n k z)) (fun i _ => n - (intOf i).toNat)
  case atStart => exact ⟨0, Nat.zero_le _, rfl, (Below.refl _ _).alloc (Nat.le_refl _) _, cloneAt_start w n z⟩
  case round =>
    obtain ⟨k, hk, rfl, hrel⟩ := hrel
    by_cases hlt : k < n
    · have c0 := HZ.out k hlt
      have c1 : wr.cell? ⟨b, off + k, none⟩ = some (.int .u8 (z k)) := by
        rw [hrel.out.1.cell (p := ⟨b, off + k, none⟩) (World.block_lt_of_cell? _ _ c0)]; exact c0
      have f1 := hrel.out.2.1 k hlt
      obtain ⟨v, c2⟩ := hrel.out.2.2.1 k hlt
      clear c0
      go_wp2
      go_roundw
      case rel => exact ⟨k + 1, by omega, by go_num, hrel.out.1.setCell (Nat.le_refl _) _, cloneAt_step hlt hrel.out.2⟩
      case measure => simp [intOf]; omega
    · obtain rfl : k = n := by omega
      go_wp2
      go_ret
      exact ⟨rfl, hrel.out.1, hrel.out.2.2.2⟩

theorem clone_nil (w : World) : Calls Try.prog 10 #[.slice none 0 0] w fun e w' => e = .returned (.slice none 0 0) ∧ w = w' := by
  have hne := fun w => Lib.run_eql_slice_nil (P := Try.prog) w 22 5 none 0 0 0 0 Try.underlying22
  go_enter Try.func10, Try.ntmps10
  go_wp2
  go_ret
  exact ⟨rfl, rfl⟩

theorem clone_empty (x : Addr) (c : Nat) (w : World) : Calls Try.prog 10 #[.slice (some x) 0 c] w fun e w' => e = .returned (.slice (some ⟨w.heap.size, 0, none⟩) 0 0) ∧ Below w.heap.size w w' ∧ w.heap.size < w'.heap.size := by
  have hne := fun w => Lib.run_eql_slice_nil (P := Try.prog) w 22 5 (some x) 0 c 0 0 Try.underlying22
  have hmk : ∀ w, (Instr.makeSlice 22 (.int .i64 0) (.int .i64 0)).run Try.prog w = .ok (.slice (some ⟨w.heap.size, 0, none⟩) 0 0) (w.alloc (.cells (madeCells #[.int .u8 0] 0) 5)) := by
    intro w
    have := make_bytes 0 (by omega) w
    simpa using this
  go_enter Try.func10, Try.ntmps10
  go_wp2
  refine wp_loop_rounds 1 ?_; rw [rounds_succ]
  go_wp2
  go_ret
  exact ⟨rfl, (Below.refl _ _).alloc (Nat.le_refl _) _, by simp⟩

/-- 'cloneBytes', WHATEVER SLICE CAME IN. -/
theorem clone_row (ao : Option Addr) (n c : Nat) (zs : List Int) (w : World) (hn : n ≤ 1048576) (h : IsRow .u8 w ao n c zs) :
    Calls Try.prog 10 #[.slice ao n c] w fun e w' => ∃ a', e = .returned (.slice a' n n) ∧ Below w.heap.size w w' ∧ CopyOf w' a' n (fun i => zs.getD i 0) := by
  rcases h with ⟨rfl, rfl, rfl, _⟩ | ⟨x, rfl, h1, h2, h3, h4, h5⟩
  · refine (clone_nil w).mono ?_
    rintro e w' ⟨rfl, rfl⟩
    exact ⟨none, rfl, Below.refl _ _, .inl ⟨rfl, rfl⟩⟩
  · by_cases h0 : n = 0
    · subst h0
      refine (clone_empty x c w).mono ?_
      rintro e w' ⟨rfl, hb, hs⟩
      exact ⟨_, rfl, hb, .inr ⟨_, rfl, hs, fun j hj => by omega⟩⟩
    · obtain ⟨b, off, spot⟩ := x
      have hspot : spot = none := by simpa [Addr.add] using World.cell?_spot (h4 0 (by omega))
      subst hspot
      refine (clone_pos b off n c (fun i => zs.getD i 0) w hn (fun i hi => ?_)).mono ?_
      · have := h4 i (by omega)
        rwa [Addr.add_lit] at this
      · rintro e w' ⟨rfl, hb, hc⟩
        exact ⟨_, rfl, hb, .inr ⟨_, rfl, World.block_lt_of_cell? _ _ (hc 0 (by omega)), hc⟩⟩

end Go.Proofs.Qxb6602732a
