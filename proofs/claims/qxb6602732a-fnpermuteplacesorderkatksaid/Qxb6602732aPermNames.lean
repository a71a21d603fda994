/-
  WALKS: 'cloneStrings' (22), 'ZZPermuteNames' (23).
-/
import Derived.Test.Qxb6602732aPermWalks
namespace Go.Proofs.Qxb6602732a
open Go.RowKit

theorem info9 : (Try.prog.info? 9).map (fun i => (i.zero, i.size, i.bytes)) = some (some (.string ByteArray.empty), 1, 16) := by kernel_rfl

/-- 'make([]string, n)'. -/
theorem make_strings (n : Nat) (hn : n ≤ 1048576) (w : World) : (Instr.makeSlice 37 (.int .i64 n) (.int .i64 n)).run Try.prog w = .ok (.slice (some ⟨w.heap.size, 0, none⟩) n n) (w.alloc (.cells (madeCells #[.string ByteArray.empty] n) 9)) := by
  obtain ⟨i, hi, hz, hs, hb⟩ := info_parts info9
  have := run_make (P := Try.prog) w 37 9 i _ Try.underlying37 hi hz .i64 .i64 n n (by omega) (by omega) (by rw [hb]; omega) (by omega)
  simpa [hs, Value.cells] using this

/-- Block B's first k of n cells are the strings s; all n are there and may be written. -/
def SCloneAt (wr : World) (B n k : Nat) (s : Nat → ByteArray) : Prop :=
  (∀ j, j < n → wr.frozen? ⟨B, j, none⟩ = false) ∧ (∀ j, j < n → ∃ v, wr.cell? ⟨B, j, none⟩ = some v) ∧ ∀ j, j < k → wr.cell? ⟨B, j, none⟩ = some (.string (s j))

theorem sclone_start (w : World) (n : Nat) (s : Nat → ByteArray) : SCloneAt (w.alloc (.cells (madeCells #[.string ByteArray.empty] n) 9)) w.heap.size n 0 s := by
  refine ⟨fun j _ => ?_, fun j hj => ?_, fun j hj => by omega⟩
  · simp only [World.frozen?]
    rw [heap_new w]
    simp
  · rw [World.cell?_alloc_at _ _ _ _ rfl]
    simp [madeCells, hj]

theorem sclone_step {wr : World} {B n k : Nat} {s : Nat → ByteArray} (hk : k < n) (h : SCloneAt wr B n k s) : SCloneAt (wr.setCell ⟨B, k, none⟩ (.string (s k))) B n (k + 1) s := by
  obtain ⟨hf, hc, hz⟩ := h
  refine ⟨fun j hj => ?_, fun j hj => ?_, fun j hj => ?_⟩
  · rw [World.frozen?_setCell]; exact hf j hj
  · obtain ⟨v, hv⟩ := hc j hj
    exact cell?_setCell_some hv
  · by_cases e : j = k
    · subst e
      obtain ⟨v, hv⟩ := hc j hk
      exact World.cell?_setCell_same (u := v) _ _ _ hv
    · rw [World.cell?_setCell_other]
      · exact hz j (by omega)
      · intro h; injection h; omega

/-- WHAT THE WALK IS TOLD OF A SLICE OF STRINGS THAT CAME IN. -/
def IsStrs (w : World) (a : Option Addr) (len cap : Nat) (ss : List ByteArray) : Prop :=
  (a = none ∧ len = 0 ∧ cap = 0 ∧ ss = []) ∨
  ∃ x, a = some x ∧ len ≤ cap ∧ cap ≤ maxLen ∧ ss.length = cap ∧ (∀ i, i < ss.length → w.cell? (x.add i) = some (.string (ss.getD i ByteArray.empty))) ∧ ∀ s ∈ ss, s.size ≤ maxLen

theorem IsStrs.later {w w' : World} {a : Option Addr} {len cap : Nat} {ss : List ByteArray} (h : IsStrs w a len cap ss) (hb : Below w.heap.size w w') : IsStrs w' a len cap ss := by
  rcases h with h | ⟨x, rfl, h1, h2, h3, h4, h5⟩
  · exact .inl h
  · refine .inr ⟨x, rfl, h1, h2, h3, fun i hi => ?_, h5⟩
    have := h4 i hi
    rw [hb.cell (World.block_lt_of_cell? _ _ this)]
    exact this

set_option maxHeartbeats 1000000 in
theorem sclone_pos (b off n c : Nat) (s : Nat → ByteArray) (w : World) (hn : n ≤ 1048576) (hz : ∀ i, i < n → w.cell? ⟨b, off + i, none⟩ = some (.string (s i))) :
    Calls Try.prog 22 #[.slice (some ⟨b, off, none⟩) n c] w fun e w' => e = .returned (.slice (some ⟨w.heap.size, 0, none⟩) n n) ∧ Below w.heap.size w w' ∧ ∀ j, j < n → w'.cell? ⟨w.heap.size, j, none⟩ = some (.string (s j)) := by
  have hne := fun w => Lib.run_eql_slice_nil (P := Try.prog) w 37 9 (some ⟨b, off, none⟩) n c 0 0 Try.underlying37
  have hmk := make_strings n (by omega)
  have HZ : Hid (∀ i, i < n → w.cell? ⟨b, off + i, none⟩ = some (.string (s i))) := hz
  clear hz
  go_enter Try.func22, Try.ntmps22
  go_wp2
  go_loopw [4] (fun i wr => ∃ k : Nat, k ≤ n ∧ i = .int .i64 k ∧ Hid (Below w.heap.size w wr ∧ SCloneAt wr w.heap.size n k s)) (fun i _ => n - (intOf i).toNat)
  case atStart => exact ⟨0, Nat.zero_le _, rfl, (Below.refl _ _).alloc (Nat.le_refl _) _, sclone_start w n s⟩
  case round =>
    obtain ⟨k, hk, rfl, hrel⟩ := hrel
    by_cases hlt : k < n
    · have c0 := HZ.out k hlt
      have c1 : wr.cell? ⟨b, off + k, none⟩ = some (.string (s k)) := by
        rw [hrel.out.1.cell (p := ⟨b, off + k, none⟩) (World.block_lt_of_cell? _ _ c0)]; exact c0
      have f1 := hrel.out.2.1 k hlt
      obtain ⟨v, c2⟩ := hrel.out.2.2.1 k hlt
      clear c0
      go_wp2
      go_roundw
      case rel => exact ⟨k + 1, by omega, by go_num, hrel.out.1.setCell (Nat.le_refl _) _, sclone_step hlt hrel.out.2⟩
      case measure => simp [intOf]; omega
    · obtain rfl : k = n := by omega
      go_wp2
      go_ret
      exact ⟨rfl, hrel.out.1, hrel.out.2.2.2⟩

/-- cloneStrings of no strings. -/
theorem sclone_zero (a : Option Addr) (c : Nat) (w : World) : Calls Try.prog 22 #[.slice a 0 c] w fun e w' => (∃ a', e = .returned (.slice a' 0 0)) ∧ Below w.heap.size w w' := by
  have hmk : ∀ w, (Instr.makeSlice 37 (.int .i64 0) (.int .i64 0)).run Try.prog w = .ok (.slice (some ⟨w.heap.size, 0, none⟩) 0 0) (w.alloc (.cells (madeCells #[.string ByteArray.empty] 0) 9)) := by
    intro w
    have := make_strings 0 (by omega) w
    simpa using this
  have hne := fun w => Lib.run_eql_slice_nil (P := Try.prog) w 37 9 a 0 c 0 0 Try.underlying37
  cases a with
  | none =>
    go_enter Try.func22, Try.ntmps22
    go_wp2
    go_ret
    exact ⟨⟨none, rfl⟩, Below.refl _ _⟩
  | some x =>
    go_enter Try.func22, Try.ntmps22
    go_wp2
    refine wp_loop_rounds 1 ?_; rw [rounds_succ]
    go_wp2
    go_ret
    exact ⟨⟨some ⟨w.heap.size, 0, none⟩, rfl⟩, (Below.refl _ _).alloc (Nat.le_refl _) _⟩

/-! ### 'ZZPermuteNames' -/
theorem frozen_mk (w : World) (cs : Array Value) (t : TypeId) (j : Nat) : (w.alloc (.cells cs t)).frozen? ⟨w.heap.size, j, none⟩ = false := by
  simp only [World.frozen?]
  rw [heap_new w]
  simp

/-- 'make([]entry, n)'. -/
theorem make_entries (n : Nat) (hn : n ≤ 64) (w : World) : (Instr.makeSlice 47 (.int .i64 n) (.int .i64 n)).run Try.prog w = .ok (.slice (some ⟨w.heap.size, 0, none⟩) n n) (w.alloc (.cells (madeCells (ecells ByteArray.empty).toArray (n * 11)) 54)) := by
  obtain ⟨i, hi, hz, hs, hb⟩ := info_parts zero54
  have := run_make (P := Try.prog) w 47 54 i _ Try.underlying47 hi hz .i64 .i64 n n (by omega) (by omega) (by rw [hb]; omega) (by omega)
  simpa [hs, Value.cells] using this

theorem ent_start (w : World) (n : Nat) (f : Nat → ByteArray) (hf : ∀ i, i < n → f i = ByteArray.empty) : EntAt (w.alloc (.cells (madeCells (ecells ByteArray.empty).toArray (n * 11)) 54)) w.heap.size n f := by
  intro i hi
  have hcell : ∀ j, j < 11 → (w.alloc (.cells (madeCells (ecells ByteArray.empty).toArray (n * 11)) 54)).cell? ⟨w.heap.size, i * 11 + j, none⟩ = (ecells ByteArray.empty)[j]? := by
    intro j hj
    rw [World.cell?_alloc_at _ _ _ _ rfl]
    have hlt : i * 11 + j < n * 11 := by omega
    have hl : (ecells ByteArray.empty).length = 11 := rfl
    simp only [madeCells, Array.getElem?_map, List.size_toArray, hl]
    rw [Array.getElem?_range, if_pos hlt]
    simp only [Option.map_some]
    rw [show (i * 11 + j) % 11 = j by omega]
    have hj' : j < (ecells ByteArray.empty).length := by rw [hl]; exact hj
    rw [List.getElem?_eq_getElem hj', getElem!_pos _ _ (by simpa using hj')]
    simp
  refine ⟨fun j v hv => ?_, fun j hj => ⟨?_, frozen_mk w _ _ _⟩⟩
  · rw [hf i hi] at hv
    have hj : j < 11 := (List.getElem?_eq_some_iff.1 hv).1
    rw [hcell j hj]; exact hv
  · rw [hcell j hj]
    have hj' : j < (ecells ByteArray.empty).length := hj
    simp [hj']

/-- 'entries[k].name = s'. -/
theorem ent_name {w : World} {g n k : Nat} {f : Nat → ByteArray} (h : EntAt w g n f) (hk : k < n) (s : ByteArray) : EntAt (w.setCell ⟨g, k * 11, none⟩ (.string s)) g n (fun i => if i = k then s else f i) := by
  intro i hi
  refine ⟨?_, World.there_setCells (h i hi).2 g (k * 11) [.string s]⟩
  by_cases e : i = k
  · subst e
    simp only [if_true]
    intro j v hv
    match j, hv with
    | 0, hv =>
      obtain rfl : Value.string s = v := by simpa [ecells] using hv
      exact World.cell?_setCell_same (u := .string (f i)) _ _ _ ((h i hi).1 0 _ rfl)
    | j + 1, hv =>
      rw [World.cell?_setCell_other]
      · exact (h i hi).1 (j + 1) v hv
      · intro h; injection h; omega
  · simp only [e, if_false]
    refine World.rangeAt_setCells_apart (h i hi).1 g (k * 11) [.string s] ?_
    rw [ecells_len]
    simp
    omega

/-- The names as they are laid: the first k of them. -/
def laidTo (s : Nat → ByteArray) (k : Nat) : Nat → ByteArray := fun i => if i < k then s i else ByteArray.empty
theorem laidTo_step {w : World} {g n k : Nat} {s : Nat → ByteArray} (h : EntAt w g n (laidTo s k)) (hk : k < n) : EntAt (w.setCell ⟨g, k * 11, none⟩ (.string (s k))) g n (laidTo s (k + 1)) := by
  have := ent_name h hk (s k)
  intro i hi
  have e : laidTo s (k + 1) i = if i = k then s k else laidTo s k i := by
    unfold laidTo
    by_cases e1 : i = k
    · subst e1; simp
    · by_cases e2 : i < k
      · simp [e1, e2, Nat.lt_succ_of_lt e2]
      · simp [e1, e2, show ¬ i < k + 1 by omega]
  rw [e]
  exact this i hi
theorem laidTo_end {w : World} {g n : Nat} {s : Nat → ByteArray} (h : EntAt w g n (laidTo s n)) : EntAt w g n s := fun i hi => by
  have e : laidTo s n i = s i := by simp [laidTo, hi]
  rw [← e]
  exact h i hi

set_option maxHeartbeats 2000000 in
theorem names_any (b b2 n m : Nat) (o : Nat → Nat) (s : Nat → ByteArray) (w : World) (hn : n ≤ 64) (hm : n ≤ m) (hm2 : m ≤ 1048576) (hp : IsPerm o n) (hb : b < w.heap.size) (hb2 : b2 < w.heap.size)
    (hs : ∀ i, i < n → w.cell? ⟨b, i, none⟩ = some (.string (s i))) (ho : ∀ i, i < n → w.cell? ⟨b2, i, none⟩ = some (.int .u8 (o i : Nat))) :
    Calls Try.prog 23 #[.slice (some ⟨b, 0, none⟩) n n, .slice (some ⟨b2, 0, none⟩) m m] w fun e w' => (∃ g2, e = .returned (.slice (some ⟨g2, 0, none⟩) n n) ∧ ∀ j, j < n → w'.cell? ⟨g2, j, none⟩ = some (.string (s (o j)))) ∧ Below w.heap.size w w' := by
  have HP : Hid (IsPerm o n) := hp
  have HS : Hid (∀ i, i < n → w.cell? ⟨b, i, none⟩ = some (.string (s i))) := hs
  have HO : Hid (∀ i, i < n → w.cell? ⟨b2, i, none⟩ = some (.int .u8 (o i : Nat))) := ho
  clear hp hs ho
  have hmk := make_entries n hn
  have hms := make_strings n (by omega)
  go_enter Try.func23, Try.ntmps23
  go_wp2
  go_loopw [6] (fun i wr => ∃ k : Nat, k ≤ n ∧ i = .int .i64 k ∧ Hid (w.heap.size < wr.heap.size ∧ Below w.heap.size w wr ∧ EntAt wr w.heap.size n (laidTo s k))) (fun i _ => n - (intOf i).toNat)
  case atStart => exact ⟨0, Nat.zero_le _, rfl, by simp, (Below.refl _ _).alloc (Nat.le_refl _) _, ent_start w n _ (fun i _ => by simp [laidTo])⟩
  case round =>
    obtain ⟨k, hk, rfl, hrel⟩ := hrel
    by_cases hlt : k < n
    · have c1 : wr.cell? ⟨b, k, none⟩ = some (.string (s k)) := by
        rw [hrel.out.2.1.cell (p := ⟨b, k, none⟩) hb]; exact HS.out k hlt
      obtain ⟨hr, ht⟩ := hrel.out.2.2 k hlt
      have c2 : wr.cell? ⟨w.heap.size, k * 11, none⟩ = some (.string (laidTo s k k)) := hr 0 _ rfl
      have f2 : wr.frozen? ⟨w.heap.size, k * 11, none⟩ = false := (ht 0 (by omega)).2
      have HN : Hid (w.heap.size < (wr.setCell ⟨w.heap.size, k * 11, none⟩ (.string (s k))).heap.size ∧ Below w.heap.size w (wr.setCell ⟨w.heap.size, k * 11, none⟩ (.string (s k))) ∧ EntAt (wr.setCell ⟨w.heap.size, k * 11, none⟩ (.string (s k))) w.heap.size n (laidTo s (k + 1))) :=
        ⟨by simpa [World.setCell] using hrel.out.1, hrel.out.2.1.setCell (p := ⟨w.heap.size, k * 11, none⟩) (Nat.le_refl _) _, laidTo_step hrel.out.2.2 hlt⟩
      generalize laidTo s k k = q at c2
      clear hr ht hrel
      go_wp2
      go_roundw
      case rel => exact ⟨k + 1, by omega, by go_num, HN⟩
      case measure => simp [intOf]; omega
    · obtain rfl : k = n := by omega
      rename World => w1
      have HPM : Hid (Calls Try.prog 27 #[.slice (some ⟨w.heap.size, 0, none⟩) k k, .slice (some ⟨b2, 0, none⟩) m m] w1 fun e w' => e = .returned (.tuple #[]) ∧ Below w.heap.size w1 w' ∧ EntAt w' w.heap.size k (fun i => s (o i))) :=
        permute_any w.heap.size b2 k m o s w1 hn hm hm2 HP.out hb2 hrel.out.1 (laidTo_end hrel.out.2.2) (fun i hi => by rw [hrel.out.2.1.cell (p := ⟨b2, i, none⟩) hb2]; exact HO.out i hi)
      go_wp2_with fail
      refine (HPM.out).mono ?_
      rintro e w2 ⟨rfl, hb3, he3⟩
      have HE : Hid (Below w.heap.size w w2 ∧ EntAt w2 w.heap.size k (fun i => s (o i)) ∧ w.heap.size < w2.heap.size) := ⟨hrel.out.2.1.trans hb3, he3, Nat.lt_of_lt_of_le hrel.out.1 hb3.size⟩
      clear hb3 he3 HPM hrel
      go_wp2_with fail
      go_loopw [8] (fun i wr => ∃ t : Nat, t ≤ k ∧ i = .int .i64 t ∧ Hid (Below w2.heap.size w2 wr ∧ SCloneAt wr w2.heap.size k t (fun j => s (o j)))) (fun i _ => k - (intOf i).toNat)
      case atStart => exact ⟨0, Nat.zero_le _, rfl, (Below.refl _ _).alloc (Nat.le_refl _) _, sclone_start w2 k _⟩
      case round =>
        obtain ⟨t, ht, rfl, hrel⟩ := hrel
        by_cases htl : t < k
        · have c0 : w2.cell? ⟨w.heap.size, t * 11, none⟩ = some (.string (s (o t))) := (HE.out.2.1 t htl).1 0 _ rfl
          have c1 : wr.cell? ⟨w.heap.size, t * 11, none⟩ = some (.string (s (o t))) := by
            rw [hrel.out.1.cell (p := ⟨w.heap.size, t * 11, none⟩) HE.out.2.2]; exact c0
          have f2 := hrel.out.2.1 t htl
          obtain ⟨v, c2⟩ := hrel.out.2.2.1 t htl
          clear c0
          go_wp2
          go_roundw
          case rel => exact ⟨t + 1, by omega, by go_num, hrel.out.1.setCell (Nat.le_refl _) _, sclone_step htl hrel.out.2⟩
          case measure => simp [intOf]; omega
        · obtain rfl : t = k := by omega
          go_wp2
          go_ret
          exact ⟨⟨w2.heap.size, rfl, hrel.out.2.2.2⟩, HE.out.1.trans (hrel.out.1.mono HE.out.1.size)⟩

end Go.Proofs.Qxb6602732a
