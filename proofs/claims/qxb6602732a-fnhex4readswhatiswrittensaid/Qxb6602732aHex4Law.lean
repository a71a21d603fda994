/-
  WALKS: the law 'FnHex4ReadsWhatIsWritten' (3) and its bound (9).
-/
import Derived.Test.Qxb6602732aHex4Walks
import Derived.Maps.AppendAt
namespace Go.Proofs.Qxb6602732a
open Go.RowKit

theorem bytes9_ok (a0 : Option Addr) (n0 c0 : Nat) (r u : Int) (a3 : Option Addr) (n3 c3 : Nat) (w : World) (h : n0 + n3 ≤ 1048576) :
    Calls Try.prog 9 #[.slice a0 n0 c0, .int .u16 r, .int .u8 u, .slice a3 n3 c3] w fun e w' => e = .returned (.bool true) ∧ w = w' := by
  have h1 : n0 ≤ 1048576 := by omega
  have h2 : n3 ≤ 1048576 := by omega
  go_enter Try.func9, Try.ntmps9
  go_wp2
  go_ret
  exact ⟨rfl, rfl⟩

theorem bytes9_no (a0 : Option Addr) (n0 c0 : Nat) (r u : Int) (a3 : Option Addr) (n3 c3 : Nat) (w : World) (m0 : n0 ≤ maxLen) (m3 : n3 ≤ maxLen) (h : 1048576 < n0 + n3) :
    Calls Try.prog 9 #[.slice a0 n0 c0, .int .u16 r, .int .u8 u, .slice a3 n3 c3] w fun e w' => e = .returned (.bool false) ∧ w = w' := by
  unfold maxLen at m0 m3
  by_cases h1 : 1048576 < n0
  · clear h
    go_enter Try.func9, Try.ntmps9
    go_wp2
    go_ret
    exact ⟨rfl, rfl⟩
  · by_cases h2 : 1048576 < n3
    · clear h
      go_enter Try.func9, Try.ntmps9
      go_wp2
      go_ret
      exact ⟨rfl, rfl⟩
    · go_enter Try.func9, Try.ntmps9
      go_wp2
      go_ret
      exact ⟨rfl, rfl⟩

theorem law3_long (a0 : Option Addr) (n0 c0 : Nat) (r u : Int) (a3 : Option Addr) (n3 c3 : Nat) (w : World) (m0 : n0 ≤ maxLen) (m3 : n3 ≤ maxLen) (h : 1048576 < n0 + n3 ∨ 524288 < n0 ∨ 524288 < n3) :
    Calls Try.prog 3 #[.slice a0 n0 c0, .int .u16 r, .int .u8 u, .slice a3 n3 c3] w fun e w' => e = .returned (.bool true) ∧ Below w.heap.size w w' := by
  by_cases hs : 1048576 < n0 + n3
  · go_enter Try.func3, Try.ntmps3
    go_wp2_with (go_at_call 9; refine (bytes9_no _ _ _ _ _ _ _ _ _ m0 m3 hs).mono ?_; rintro e w' ⟨rfl, rfl⟩)
    go_ret
    exact ⟨rfl, Below.refl _ _⟩
  · by_cases h0 : 524288 < n0
    · clear h
      go_enter Try.func3, Try.ntmps3
      go_wp2_with (go_at_call 9; refine (bytes9_ok _ _ _ _ _ _ _ _ _ (by omega)).mono ?_; rintro e w' ⟨rfl, rfl⟩)
      go_ret
      exact ⟨rfl, Below.refl _ _⟩
    · have h3 : 524288 < n3 := by omega
      clear h
      go_enter Try.func3, Try.ntmps3
      go_wp2_with (go_at_call 9; refine (bytes9_ok _ _ _ _ _ _ _ _ _ (by omega)).mono ?_; rintro e w' ⟨rfl, rfl⟩)
      go_ret
      exact ⟨rfl, Below.refl _ _⟩

/-- The cells of a clone, as values. -/
def cellsOfZ (n : Nat) (z : Nat → Int) : List Value := (List.range n).map fun i => Value.int .u8 (z i)
theorem cellsOfZ_len (n : Nat) (z : Nat → Int) : (cellsOfZ n z).length = n := by simp [cellsOfZ]
theorem cellsOfZ_one (n : Nat) (z : Nat → Int) : ∀ u ∈ cellsOfZ n z, u.oneCell' = true := by
  intro u hu
  obtain ⟨_, _, rfl⟩ := List.mem_map.1 hu
  rfl
theorem CopyOf.src {w : World} {a : Option Addr} {n : Nat} {z : Nat → Int} (h : CopyOf w a n z) : ∀ ad, a = some ad → ∀ j u, (cellsOfZ n z)[j]? = some u → w.cell? (ad.add j) = some u := by
  intro ad had j u hu
  have hj : j < n := by
    have := (List.getElem?_eq_some_iff.1 hu).1
    simpa [cellsOfZ] using this
  rcases h with ⟨rfl, _⟩ | ⟨b, rfl, _, hc⟩
  · cases had
  · cases had
    rw [Addr.add_lit, Nat.zero_add, hc j hj]
    simpa [cellsOfZ, hj] using hu
theorem CopyOf.none_len {w : World} {a : Option Addr} {n : Nat} {z : Nat → Int} (h : CopyOf w a n z) : a = none → n = 0 ∧ n = 0 := by
  intro ha
  rcases h with ⟨_, h⟩ | ⟨b, rfl, _, _⟩
  · exact ⟨h, h⟩
  · cases ha
theorem below_grown {w w' : World} {row : Option Nat} (hg : w.grownBy w' row) (B : Nat) (hB : B ≤ w.heap.size) (hr : ∀ k, row = some k → B ≤ k) : Below B w w' := (Below.refl _ _).grown hg hB hr

/-- THE LAW's STATE IN ITS LOOP: buf (block g) holds the first slice, 'u' and the first k digits; nothing below g has turned. -/
def Wrote (w2 wr : World) (g n0 n3 k : Nat) (z : Nat → Int) (r : Int) : Prop :=
  Below g w2 wr ∧ g ≤ wr.heap.size ∧ ∃ ys : Nat → Int, (∀ j, j < k → HexOf (ys j) (digit r j)) ∧
    wr.ownsRow g 5 1 (.slice (some ⟨g, 0, none⟩) (n0 + 1 + k) (n0 + 5 + n3)) (n0 + 1 + k) (cellsOfZ n0 z ++ [.int .u8 117] ++ cellsOfZ k ys)

theorem cellsOfZ_snoc (k : Nat) (ys : Nat → Int) (y : Int) : cellsOfZ k ys ++ [.int .u8 y] = cellsOfZ (k + 1) (fun j => if j = k then y else ys j) := by
  unfold cellsOfZ
  rw [List.range_succ, List.map_append]
  congr 1
  · refine List.map_congr_left fun j hj => ?_
    have := List.mem_range.1 hj
    simp [show j ≠ k by omega]
  · simp

theorem wrote_step {w2 wr wx : World} {g n0 n3 k : Nat} {z : Nat → Int} {r y : Int} {ys : Nat → Int} (hb : Below g w2 wr) (hg : g ≤ wr.heap.size) (hys : ∀ j, j < k → HexOf (ys j) (digit r j)) (hy : HexOf y (digit r k))
    (hown : wx.ownsRow g 5 1 (.slice (some ⟨g, 0, none⟩) (n0 + 1 + k + 1) (n0 + 5 + n3)) (n0 + 1 + k + 1) (cellsOfZ n0 z ++ [.int .u8 117] ++ cellsOfZ k ys ++ [.int .u8 y]))
    (hgr : (wr.alloc (.cells #[.int .u8 y] 5)).grownBy wx (some g)) : Wrote w2 wx g n0 n3 (k + 1) z r := by
  have hba := hb.alloc hg (.cells #[.int .u8 y] 5)
  have hbx : Below g (wr.alloc (.cells #[.int .u8 y] 5)) wx := below_grown hgr g (by simp; omega) (by simp)
  refine ⟨hba.trans hbx, ?_, fun j => if j = k then y else ys j, ?_, ?_⟩
  · have := hbx.size; simp at this; omega
  · intro j hj
    by_cases e : j = k
    · subst e; simpa using hy
    · simp only [e, if_false]; exact hys j (by omega)
  · have e : cellsOfZ n0 z ++ [Value.int .u8 117] ++ cellsOfZ k ys ++ [Value.int .u8 y] = cellsOfZ n0 z ++ [Value.int .u8 117] ++ cellsOfZ (k + 1) (fun j => if j = k then y else ys j) := by
      rw [List.append_assoc _ _ [Value.int .u8 y], cellsOfZ_snoc k]
    rw [e] at hown
    exact hown

/-- A cell of an owned row. -/
theorem own_cell {w : World} {g n cap : Nat} {xs : List Value} (h : w.ownsRow g 5 1 (.slice (some ⟨g, 0, none⟩) n cap) n xs) {j : Nat} {v : Value} (hj : xs[j]? = some v) : w.cell? ⟨g, j, none⟩ = some v := by
  obtain ⟨_, h | ⟨g', cap', cur, hv, _, hh, _, _, _, ht⟩⟩ := h
  · cases h.1
  · injection hv with h1 h2 h3
    injection h1 with h1
    injection h1 with h1
    subst h1
    have hlt : j < n * 1 := by
      have := (List.getElem?_eq_some_iff.1 hj).1
      rw [← ht, List.length_take] at this
      omega
    rw [← ht, List.getElem?_take_of_lt hlt] at hj
    simp only [World.cell?, hh]
    simpa using hj

/-- WHAT ZZHex4 MEETS: 'u' at place n0, the four digits behind it. -/
theorem wrote_cells {w : World} {g n0 n cap : Nat} {z ys : Nat → Int} {rest : List Value} (h : w.ownsRow g 5 1 (.slice (some ⟨g, 0, none⟩) n cap) n (cellsOfZ n0 z ++ [.int .u8 117] ++ cellsOfZ 4 ys ++ rest)) :
    w.cell? ⟨g, n0, none⟩ = some (.int .u8 117) ∧ ∀ j, j < 4 → w.cell? ⟨g, n0 + 1 + j, none⟩ = some (.int .u8 (ys j)) := by
  have l0 := cellsOfZ_len n0 z
  have l4 := cellsOfZ_len 4 ys
  refine ⟨own_cell h ?_, fun j hj => own_cell h ?_⟩
  · rw [List.append_assoc, List.append_assoc, List.getElem?_append_right (by omega), l0]
    simp
  · rw [List.append_assoc, List.getElem?_append_right (by simp; omega), List.getElem?_append_left (by simp; omega)]
    simp only [List.length_append, l0, List.length_cons, List.length_nil]
    rw [show n0 + 1 + j - (n0 + (0 + 1)) = j by omega]
    simp [cellsOfZ, hj]

set_option maxHeartbeats 2000000 in
theorem law3_any (a0 : Option Addr) (n0 c0 : Nat) (z0 : List Int) (r u : Int) (a3 : Option Addr) (n3 c3 : Nat) (z3 : List Int) (w : World) (hs : n0 + n3 ≤ 1048576) (h0 : n0 ≤ 524288) (h3 : n3 ≤ 524288)
    (r0 : IsRow .u8 w a0 n0 c0 z0) (r3 : IsRow .u8 w a3 n3 c3 z3) (hr0 : 0 ≤ r) (hr1 : r ≤ 65535) :
    Calls Try.prog 3 #[.slice a0 n0 c0, .int .u16 r, .int .u8 u, .slice a3 n3 c3] w fun e w' => e = .returned (.bool true) ∧ Below w.heap.size w w' := by
  obtain ⟨i5, hi5, hz0, hz1, hz2⟩ := info_parts info5
  have HI : Hid (Try.prog.info? 5 = some i5 ∧ i5.zero = some (.int .u8 0) ∧ i5.size = 1 ∧ i5.bytes = 1) := ⟨hi5, hz0, hz1, hz2⟩
  have R0 : Hid (IsRow .u8 w a0 n0 c0 z0) := r0
  have R3 : Hid (IsRow .u8 w a3 n3 c3 z3) := r3
  clear hi5 hz0 hz1 hz2 r0 r3
  go_enter Try.func3, Try.ntmps3
  go_wp2_with (go_at_call 9; refine (bytes9_ok _ _ _ _ _ _ _ _ _ hs).mono ?_; rintro e w' ⟨rfl, rfl⟩)
  refine (clone_row a0 n0 c0 z0 w (by omega) R0.out).mono ?_
  rintro e w1 ⟨p0, rfl, hb1, cp0⟩
  go_wp2_with fail
  refine (clone_row a3 n3 c3 z3 w1 (by omega) (R3.out.later hb1)).mono ?_
  rintro e w2 ⟨p3, rfl, hb2, cp3⟩
  have CP0 : Hid (CopyOf w2 p0 n0 (fun i => z0.getD i 0)) := cp0.later hb2
  have CP3 : Hid (CopyOf w2 p3 n3 (fun i => z3.getD i 0)) := cp3
  have HB2 : Hid (Below w.heap.size w w2) := hb1.trans (hb2.mono hb1.size)
  clear cp0 cp3 hb1 hb2
  go_wp2_with (first
    | (at_make; refine wpList_make_own _ rfl _ _ 22 rfl w2.heap.size 5 i5 (.int .u8 0) 1 Try.underlying22 HI.out.1 HI.out.2.1 HI.out.2.2.1 _ _ _ (n0 + 5 + n3) rfl rfl (by omega) (by rw [HI.out.2.2.2]; omega) (by unfold maxLen; omega) (Nat.le_refl _) ?_; intro w3 hown3 hg3; have hb3 := below_grown hg3 w2.heap.size (Nat.le_refl _) (by simp); have CP03 := CP0.out.later hb3)
    | (at_builtin; refine wpList_append_fits_any _ rfl (.tmp 41) (.tmp 42) 22 rfl w2.heap.size 5 i5 1 Try.underlying22 HI.out.1 HI.out.2.2.1 w2.heap.size 0 (n0 + 5 + n3) [] rfl hown3 p0 n0 n0 (cellsOfZ n0 (fun i => z0.getD i 0)) rfl (by rw [cellsOfZ_len]; omega) (CP03.none_len) (CP03.src) (cellsOfZ_one _ _) (by omega) ?_; intro w4 hown4 hg4; have hb4 := below_grown hg4 w2.heap.size hb3.size (by simp); rw [Nat.zero_add, List.nil_append] at hown4)
    | (at_builtin; (refine wpList_append_fits _ rfl (.tmp 44) (.tmp 45) 22 rfl w2.heap.size 5 i5 1 Try.underlying22 HI.out.1 HI.out.2.2.1 w2.heap.size n0 (n0 + 5 + n3) (cellsOfZ n0 (fun i => z0.getD i 0)) rfl (hown4.alloc _) ⟨w4.heap.size, 0, none⟩ 1 1 [.int .u8 117] rfl rfl (cell_one_new _ _ _) (by simp [Value.oneCell']) (by omega) ?_); intro w5 hown5 hg5))
  have HW : Hid (Wrote w2 w5 w2.heap.size n0 n3 0 (fun i => z0.getD i 0) r) := by
    have hb43 := hb3.trans hb4
    have hb5 : Below w2.heap.size (w4.alloc (.cells #[.int .u8 117] 5)) w5 := below_grown hg5 _ (by have := hb43.size; simp; omega) (by simp)
    have hb54 := (hb43.alloc hb43.size (.cells #[.int .u8 117] 5)).trans hb5
    exact ⟨hb54, hb54.size, fun _ => 0, fun j hj => by omega, by simpa [cellsOfZ] using hown5⟩
  clear hown3 hg3 hb3 CP03 hown4 hg4 hb4 hown5 hg5
  go_loopw [9, 10] (fun b i wr => ∃ k : Nat, k ≤ 4 ∧ i = .int .i64 k ∧ b = .slice (some ⟨w2.heap.size, 0, none⟩) (n0 + 1 + k) (n0 + 5 + n3) ∧ Hid (Wrote w2 wr w2.heap.size n0 n3 k (fun i => z0.getD i 0) r)) (fun _ i _ => 4 - (intOf i).toNat)
  case atStart => exact ⟨0, Nat.zero_le _, rfl, rfl, HW⟩
  case round =>
    obtain ⟨k, hk, rfl, rfl, hrel⟩ := hrel
    clear HW
    by_cases hlt : k < 4
    · obtain ⟨hbr, hgr, ys, hys, hown⟩ := hrel.out
      have HR : Hid (Below w2.heap.size w2 wr ∧ w2.heap.size ≤ wr.heap.size ∧ (∀ j, j < k → HexOf (ys j) (digit r j)) ∧ wr.ownsRow w2.heap.size 5 1 (.slice (some ⟨w2.heap.size, 0, none⟩) (n0 + 1 + k) (n0 + 5 + n3)) (n0 + 1 + k) (cellsOfZ n0 (fun i => z0.getD i 0) ++ [.int .u8 117] ++ cellsOfZ k ys)) := ⟨hbr, hgr, hys, hown⟩
      clear hbr hgr hys hown hrel
      match k, hlt with
      | 0, _ =>
        go_wp2_with (first
          | (go_at_call 11; refine (hexDigit_any _ _ _ (by omega) (by omega)).mono ?_; rintro e w' ⟨y, rfl, hy, rfl⟩)
          | (at_builtin; refine wpList_append_fits _ rfl (.tmp 60) (.tmp 69) 22 rfl w2.heap.size 5 i5 1 Try.underlying22 HI.out.1 HI.out.2.2.1 w2.heap.size (n0 + 1 + 0) (n0 + 5 + n3) _ rfl (HR.out.2.2.2.alloc _) ⟨_, 0, none⟩ 1 1 [.int .u8 y] rfl rfl (cell_one_new _ _ _) (by simp [Value.oneCell']) (by omega) ?_; intro w6 hown6 hg6))
        go_roundw
        case rel => exact ⟨1, by omega, by go_num, rfl, wrote_step HR.out.1 HR.out.2.1 HR.out.2.2.1 hy hown6 hg6⟩
        case measure => simp [intOf]
      | 1, _ =>
        go_wp2_with (first
          | (go_at_call 11; refine (hexDigit_any _ _ _ (by omega) (by omega)).mono ?_; rintro e w' ⟨y, rfl, hy, rfl⟩)
          | (at_builtin; refine wpList_append_fits _ rfl (.tmp 60) (.tmp 69) 22 rfl w2.heap.size 5 i5 1 Try.underlying22 HI.out.1 HI.out.2.2.1 w2.heap.size (n0 + 1 + 1) (n0 + 5 + n3) _ rfl (HR.out.2.2.2.alloc _) ⟨_, 0, none⟩ 1 1 [.int .u8 y] rfl rfl (cell_one_new _ _ _) (by simp [Value.oneCell']) (by omega) ?_; intro w6 hown6 hg6))
        go_roundw
        case rel => exact ⟨2, by omega, by go_num, rfl, wrote_step HR.out.1 HR.out.2.1 HR.out.2.2.1 hy hown6 hg6⟩
        case measure => simp [intOf]
      | 2, _ =>
        go_wp2_with (first
          | (go_at_call 11; refine (hexDigit_any _ _ _ (by omega) (by omega)).mono ?_; rintro e w' ⟨y, rfl, hy, rfl⟩)
          | (at_builtin; refine wpList_append_fits _ rfl (.tmp 60) (.tmp 69) 22 rfl w2.heap.size 5 i5 1 Try.underlying22 HI.out.1 HI.out.2.2.1 w2.heap.size (n0 + 1 + 2) (n0 + 5 + n3) _ rfl (HR.out.2.2.2.alloc _) ⟨_, 0, none⟩ 1 1 [.int .u8 y] rfl rfl (cell_one_new _ _ _) (by simp [Value.oneCell']) (by omega) ?_; intro w6 hown6 hg6))
        go_roundw
        case rel => exact ⟨3, by omega, by go_num, rfl, wrote_step HR.out.1 HR.out.2.1 HR.out.2.2.1 hy hown6 hg6⟩
        case measure => simp [intOf]
      | 3, _ =>
        go_wp2_with (first
          | (go_at_call 11; refine (hexDigit_any _ _ _ (by omega) (by omega)).mono ?_; rintro e w' ⟨y, rfl, hy, rfl⟩)
          | (at_builtin; refine wpList_append_fits _ rfl (.tmp 60) (.tmp 69) 22 rfl w2.heap.size 5 i5 1 Try.underlying22 HI.out.1 HI.out.2.2.1 w2.heap.size (n0 + 1 + 3) (n0 + 5 + n3) _ rfl (HR.out.2.2.2.alloc _) ⟨_, 0, none⟩ 1 1 [.int .u8 y] rfl rfl (cell_one_new _ _ _) (by simp [Value.oneCell']) (by omega) ?_; intro w6 hown6 hg6))
        go_roundw
        case rel => exact ⟨4, by omega, by go_num, rfl, wrote_step HR.out.1 HR.out.2.1 HR.out.2.2.1 hy hown6 hg6⟩
        case measure => simp [intOf]
    · obtain rfl : k = 4 := by omega
      obtain ⟨hbr, hgr, ys, hys, hown⟩ := hrel.out
      have CP3r := CP3.out.later hbr
      clear hrel
      go_wp2_with (at_builtin; refine wpList_append_fits_any _ rfl (.tmp 71) (.tmp 72) 22 rfl w2.heap.size 5 i5 1 Try.underlying22 HI.out.1 HI.out.2.2.1 w2.heap.size (n0 + 1 + 4) (n0 + 5 + n3) _ rfl hown p3 n3 n3 (cellsOfZ n3 (fun i => z3.getD i 0)) rfl (by rw [cellsOfZ_len]; omega) (CP3r.none_len) (CP3r.src) (cellsOfZ_one _ _) (by omega) ?_; intro w7 hown7 hg7)
      obtain ⟨cu, cy⟩ := wrote_cells hown7
      have HZ := zzhex4_any w2.heap.size n0 (n0 + 1 + 4 + n3) (n0 + 5 + n3) ys (digit r) w7 (by omega) (by omega) (by omega) cu (fun j hj => ⟨cy j hj, hys j hj⟩)
      rw [acc_digits r hr0 hr1] at HZ
      refine HZ.mono ?_
      have HB7 : Hid (Below w.heap.size w w7) := by
        have b1 := HB2.out.trans (hbr.mono HB2.out.size)
        exact b1.trans (below_grown hg7 _ b1.size (by simpa using HB2.out.size))
      clear HZ cu cy hown7 hg7 hown hys hbr hgr CP3r
      rintro e w8 ⟨rfl, hb8⟩
      go_wp2_with fail
      go_ret
      exact ⟨rfl, HB7.out.trans (hb8.mono HB7.out.size)⟩

end Go.Proofs.Qxb6602732a
