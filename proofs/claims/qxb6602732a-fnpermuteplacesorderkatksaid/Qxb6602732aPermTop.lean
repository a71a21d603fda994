/-
  WALKS: the law 'FnPermutePlacesOrderKAtK' (7): 1 to 64 names.
-/
import Derived.Test.Qxb6602732aPermLaw
namespace Go.Proofs.Qxb6602732a
open Go.RowKit

/-- WHAT THE LAW's LAST LOOP READS: the answer (block g2), the names' clone (b1), the order's clone (b2). -/
def TopAt (w : World) (g2 b1 b2 n : Nat) (o : Nat → Nat) (s : Nat → ByteArray) : Prop :=
  (∀ j, j < n → w.cell? ⟨g2, j, none⟩ = some (.string (s (o j)))) ∧ (∀ j, j < n → w.cell? ⟨b1, j, none⟩ = some (.string (s j))) ∧ ∀ j, j < n → w.cell? ⟨b2, j, none⟩ = some (.int .u8 (o j : Nat))

theorem TopAt.later {w w' : World} {g2 b1 b2 n : Nat} {o : Nat → Nat} {s : Nat → ByteArray} (h : TopAt w g2 b1 b2 n o s) (hb : Below w.heap.size w w') : TopAt w' g2 b1 b2 n o s :=
  ⟨fun j hj => by rw [hb.cell (World.block_lt_of_cell? _ _ (h.1 j hj))]; exact h.1 j hj,
   fun j hj => by rw [hb.cell (World.block_lt_of_cell? _ _ (h.2.1 j hj))]; exact h.2.1 j hj,
   fun j hj => by rw [hb.cell (World.block_lt_of_cell? _ _ (h.2.2 j hj))]; exact h.2.2 j hj⟩

set_option maxHeartbeats 2000000 in
theorem law7_any (b off n c : Nat) (s : Nat → ByteArray) (b3 off3 m c2 : Nat) (zs : List Int) (o : Nat → Nat) (w : World) (hn : n ≤ 64) (hpos : 0 < n) (hm : m ≤ 1048576)
    (hs : ∀ i, i < n → w.cell? ⟨b, off + i, none⟩ = some (.string (s i)) ∧ (s i).size ≤ maxLen)
    (hrow : IsRow .u8 w (some ⟨b3, off3, none⟩) m c2 zs) (hz : ∀ i, i < m → zs.getD i 0 = (o i : Nat) ∧ o i ≤ 255) (hcell : ∀ i, i < m → w.cell? ⟨b3, off3 + i, none⟩ = some (.int .u8 (o i : Nat))) :
    Calls Try.prog 7 #[.slice (some ⟨b, off, none⟩) n c, .slice (some ⟨b3, off3, none⟩) m c2] w fun e w' => e = .returned (.bool true) ∧ Below w.heap.size w w' := by
  have HB := (show Hid (Calls Try.prog 20 #[.slice (some ⟨b, off, none⟩) n c, .slice (some ⟨b3, off3, none⟩) m c2] w fun e w' => BoolAns e ∧ w = w') from bytes20_any b off n c s (some ⟨b3, off3, none⟩) m c2 w (by unfold maxLen; omega) (by unfold maxLen; omega) hs)
  have HS : Hid (∀ i, i < n → w.cell? ⟨b, off + i, none⟩ = some (.string (s i)) ∧ (s i).size ≤ maxLen) := hs
  have HR : Hid (IsRow .u8 w (some ⟨b3, off3, none⟩) m c2 zs) := hrow
  have HZ : Hid (∀ i, i < m → zs.getD i 0 = (o i : Nat) ∧ o i ≤ 255) := hz
  have HC : Hid (∀ i, i < m → w.cell? ⟨b3, off3 + i, none⟩ = some (.int .u8 (o i : Nat))) := hcell
  clear hs hrow hz hcell
  go_enter Try.func7, Try.ntmps7
  go_wp2_with (go_at_call 20; refine (HB.out).mono ?_; rintro e w' ⟨⟨r, rfl⟩, rfl⟩; cases r)
  · go_ret
    exact ⟨rfl, Below.refl _ _⟩
  · go_loop [5, 6] (fun t i => ∃ (k : Nat) (v : Int), k ≤ n ∧ i = .int .i64 k ∧ t = .int .i64 v) (fun _ i => n - (intOf i).toNat)
    case atStart => exact ⟨0, _, Nat.zero_le _, rfl, rfl⟩
    case round =>
      obtain ⟨k, v, hk, rfl, rfl⟩ := hrel
      by_cases hlt : k < n
      · obtain ⟨c0, hsz⟩ := HS.out k hlt
        unfold maxLen at hsz
        generalize s k = q at c0 hsz
        go_wp2
        go_round
        case rel => exact ⟨k + 1, _, by omega, by go_num, rfl⟩
        case measure => simp [intOf]; omega
      · obtain rfl : k = n := by omega
        by_cases hv : 1048576 < v
        · go_wp2
          go_ret
          exact ⟨rfl, Below.refl _ _⟩
        · by_cases hmn : m < k
          · go_wp2_with (go_at_call 21; refine (ask_short _ m c2 k _ hn hmn).mono ?_; rintro e w' ⟨rfl, rfl⟩)
            go_ret
            exact ⟨rfl, Below.refl _ _⟩
          · go_wp2_with fail
            refine (ask_any b3 off3 m c2 k o w hn (by omega) hm (fun i hi => (HZ.out i (by omega)).2) (fun i hi => HC.out i (by omega))).mono ?_
            rintro e w1 ⟨⟨r, rfl, hp⟩, hb1⟩
            have HB1 : Hid (Below w.heap.size w w1) := hb1
            clear hb1
            cases r
            · clear hp
              go_wp2_with fail
              go_ret
              exact ⟨rfl, HB1.out⟩
            · have HP : Hid (IsPerm o k) := hp rfl
              clear hp
              go_wp2_with fail
              refine (sclone_pos b off k c s w1 (by omega) (fun i hi => by rw [HB1.out.cell (p := ⟨b, off + i, none⟩) (World.block_lt_of_cell? _ _ (HS.out i hi).1)]; exact (HS.out i hi).1)).mono ?_
              rintro e w2 ⟨rfl, hb2, hc2⟩
              have HB2 : Hid (Below w.heap.size w w2) := HB1.out.trans (hb2.mono HB1.out.size)
              have HC2 : Hid (∀ j, j < k → w2.cell? ⟨w1.heap.size, j, none⟩ = some (.string (s j))) := hc2
              clear hb2 hc2
              go_wp2_with fail
              refine (clone_row (some ⟨b3, off3, none⟩) m c2 zs w2 (by omega) (HR.out.later HB2.out)).mono ?_
              rintro e w3 ⟨p2, rfl, hb3, hcp⟩
              have HB3 : Hid (Below w.heap.size w w3) := HB2.out.trans (hb3.mono HB2.out.size)
              obtain ⟨g1, rfl, hg1, hc3⟩ : ∃ g1, p2 = some ⟨g1, 0, none⟩ ∧ g1 < w3.heap.size ∧ ∀ j, j < m → w3.cell? ⟨g1, j, none⟩ = some (.int .u8 (o j : Nat)) := by
                rcases hcp with ⟨_, h⟩ | ⟨g1, h1, h2, h3⟩
                · omega
                · exact ⟨g1, h1, h2, fun j hj => by rw [← (HZ.out j hj).1]; exact h3 j hj⟩
              have HC3 : Hid (∀ j, j < k → w3.cell? ⟨w1.heap.size, j, none⟩ = some (.string (s j))) := fun j hj => by
                rw [hb3.cell (p := ⟨w1.heap.size, j, none⟩) (World.block_lt_of_cell? _ _ (HC2.out j hj))]; exact HC2.out j hj
              have HC3' : Hid (∀ j, j < k → w3.cell? ⟨g1, j, none⟩ = some (.int .u8 (o j : Nat))) := fun j hj => hc3 j (by omega)
              have HG : Hid (g1 < w3.heap.size ∧ w1.heap.size < w3.heap.size) := ⟨hg1, World.block_lt_of_cell? _ _ (HC3.out 0 hpos)⟩
              clear hb3 hcp hc3 hg1
              go_wp2_with fail
              refine (names_any w1.heap.size g1 k m o s w3 hn (by omega) hm HP.out HG.out.2 HG.out.1 HC3.out HC3'.out).mono ?_
              rintro e w4 ⟨⟨g2, rfl, hc4⟩, hb4⟩
              have HB4 : Hid (Below w.heap.size w w4) := HB3.out.trans (hb4.mono HB3.out.size)
              have HT : Hid (TopAt w4 g2 w1.heap.size g1 k o s) :=
                ⟨hc4, fun j hj => by rw [hb4.cell (p := ⟨w1.heap.size, j, none⟩) HG.out.2]; exact HC3.out j hj, fun j hj => by rw [hb4.cell (p := ⟨g1, j, none⟩) HG.out.1]; exact HC3'.out j hj⟩
              clear hc4 hb4
              go_wp2_with fail
              go_loopw [9] (fun i wr => ∃ t : Nat, t ≤ k ∧ i = .int .i64 t ∧ Hid (Below w4.heap.size w4 wr)) (fun i _ => k - (intOf i).toNat)
              case atStart => exact ⟨0, Nat.zero_le _, rfl, Below.refl _ _⟩
              case round =>
                obtain ⟨t, ht, rfl, hrel⟩ := hrel
                by_cases htl : t < k
                · have hot : o t < k := HP.out.1 t htl
                  have c1 := (HT.out.later hrel.out).1 t htl
                  have c2 := (HT.out.later hrel.out).2.2 t htl
                  have c3 := (HT.out.later hrel.out).2.1 (o t) hot
                  have i1 : (t : Int) < (k : Int) := by omega
                  have i2 : (t : Int) < (m : Int) := by omega
                  have i3 : (o t : Int) < (k : Int) := by omega
                  go_wp2
                  go_quiet (fail)
                  go_wp2
                  go_roundw
                  case rel => exact ⟨t + 1, by omega, by go_num, below_drewN hrel.out _⟩
                  case measure => simp [intOf]; omega
                · obtain rfl : t = k := by omega
                  go_wp2
                  go_ret
                  exact ⟨rfl, HB4.out.trans (hrel.out.mono HB4.out.size)⟩

set_option maxHeartbeats 2000000 in
/-- Fewer places in the order than names: true. -/
theorem law7_short (b off n c : Nat) (s : Nat → ByteArray) (a2 : Option Addr) (m c2 : Nat) (w : World) (hn : n ≤ 64) (hmn : m < n)
    (hs : ∀ i, i < n → w.cell? ⟨b, off + i, none⟩ = some (.string (s i)) ∧ (s i).size ≤ maxLen) :
    Calls Try.prog 7 #[.slice (some ⟨b, off, none⟩) n c, .slice a2 m c2] w fun e w' => e = .returned (.bool true) ∧ Below w.heap.size w w' := by
  have HB := (show Hid (Calls Try.prog 20 #[.slice (some ⟨b, off, none⟩) n c, .slice a2 m c2] w fun e w' => BoolAns e ∧ w = w') from bytes20_any b off n c s a2 m c2 w (by unfold maxLen; omega) (by unfold maxLen; omega) hs)
  have HS : Hid (∀ i, i < n → w.cell? ⟨b, off + i, none⟩ = some (.string (s i)) ∧ (s i).size ≤ maxLen) := hs
  clear hs
  go_enter Try.func7, Try.ntmps7
  go_wp2_with (go_at_call 20; refine (HB.out).mono ?_; rintro e w' ⟨⟨r, rfl⟩, rfl⟩; cases r)
  · go_ret
    exact ⟨rfl, Below.refl _ _⟩
  · go_loop [5, 6] (fun t i => ∃ (k : Nat) (v : Int), k ≤ n ∧ i = .int .i64 k ∧ t = .int .i64 v) (fun _ i => n - (intOf i).toNat)
    case atStart => exact ⟨0, _, Nat.zero_le _, rfl, rfl⟩
    case round =>
      obtain ⟨k, v, hk, rfl, rfl⟩ := hrel
      by_cases hlt : k < n
      · obtain ⟨c0, hsz⟩ := HS.out k hlt
        unfold maxLen at hsz
        generalize s k = q at c0 hsz
        go_wp2
        go_round
        case rel => exact ⟨k + 1, _, by omega, by go_num, rfl⟩
        case measure => simp [intOf]; omega
      · obtain rfl : k = n := by omega
        by_cases hv : 1048576 < v
        · go_wp2
          go_ret
          exact ⟨rfl, Below.refl _ _⟩
        · go_wp2_with (go_at_call 21; refine (ask_short _ m c2 k _ hn hmn).mono ?_; rintro e w' ⟨rfl, rfl⟩)
          go_ret
          exact ⟨rfl, Below.refl _ _⟩

end Go.Proofs.Qxb6602732a
