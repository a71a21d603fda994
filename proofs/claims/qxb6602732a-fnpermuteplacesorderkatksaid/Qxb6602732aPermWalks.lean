/-
  WALKS: 'permute' (27).
-/
import Derived.Test.Qxb6602732aCloneWalks
import Derived.Test.Qxb6602732aPermPlain
import Derived.Deep.MidRow
namespace Go.Proofs.Qxb6602732a
open Go.RowKit

/-- The ten cells of an entry behind its name, all zero. -/
def zten : List Value := [.int .u8 0, .bool false, .int .u64 0, .slice none 0 0, .pointer none, .int .u8 0, .bool false, .int .u64 0, .slice none 0 0, .pointer none]
def ecells (s : ByteArray) : List Value := .string s :: zten
theorem zero54 : (Try.prog.info? 54).map (fun i => (i.zero, i.size, i.bytes)) = some (some (.agg (ecells ByteArray.empty).toArray), 11, 112) := by kernel_rfl
theorem size54 (s : ByteArray) : (Try.prog.info? 54).map (·.size) = some (ecells s).length := by kernel_rfl
theorem ecells_one (s : ByteArray) : (ecells s).toArray.all (·.oneCell') = true := all_oneCell_toArray (by simp [ecells, zten, Value.oneCell'])

/-- n entries lie in block g from its head on: names f, all else zero; each may be written. -/
def EntAt (w : World) (g n : Nat) (f : Nat → ByteArray) : Prop := ∀ i, i < n → w.rangeAt g (i * 11) (ecells (f i)) ∧ w.there g (i * 11) 11

/-! ### The bits of 'placed'. -/
theorem wrap_pow (k : Nat) (hk : k < 64) : IntKind.u64.wrap ((2 : Int) ^ k) = ((2 ^ k : Nat) : Int) := by
  have h : (2 : Nat) ^ k < 2 ^ 64 := Nat.pow_lt_pow_right (by omega) hk
  have e : ((2 : Int) ^ k) = ((2 ^ k : Nat) : Int) := by simp
  rw [e]
  simp only [IntKind.wrap, IntKind.bits, IntKind.signed]
  generalize (2 : Nat) ^ k = q at h
  simp
  omega
theorem bit_and (P k : Nat) (hP : P < 18446744073709551616) (hk : k < 64) : bits .and .u64 (P : Int) (IntKind.u64.wrap ((2 : Int) ^ k)) = ((P &&& 2 ^ k : Nat) : Int) := by
  have h : (2 : Nat) ^ k < 2 ^ 64 := Nat.pow_lt_pow_right (by omega) hk
  rw [wrap_pow k hk]
  exact u64_and_nat P (2 ^ k) hP h
theorem and_pow (P k : Nat) : P &&& 2 ^ k = if P.testBit k = true then 2 ^ k else 0 := by
  apply Nat.eq_of_testBit_eq
  intro i
  rw [Nat.testBit_and, Nat.testBit_two_pow]
  by_cases e : k = i
  · subst e
    cases h : P.testBit k <;> simp
  · cases h : P.testBit k <;> simp [e]
theorem bit_clear {P k : Nat} (hP : P < 18446744073709551616) (hk : k < 64) (h : P.testBit k = false) : bits .and .u64 (P : Int) (IntKind.u64.wrap ((2 : Int) ^ k)) = 0 := by
  rw [bit_and P k hP hk, and_pow, h]
  simp
theorem bit_set {P k : Nat} (hP : P < 18446744073709551616) (hk : k < 64) (h : P.testBit k = true) : ¬ bits .and .u64 (P : Int) (IntKind.u64.wrap ((2 : Int) ^ k)) = 0 := by
  rw [bit_and P k hP hk, and_pow, h]
  have : 0 < (2 : Nat) ^ k := Nat.pos_of_ne_zero (by simp)
  simp only [if_true]
  omega
theorem bit_or (P k : Nat) (hP : P < 18446744073709551616) (hk : k < 64) : bits .or .u64 (P : Int) (IntKind.u64.wrap ((2 : Int) ^ k)) = ((P ||| 2 ^ k : Nat) : Int) := by
  have h : (2 : Nat) ^ k < 2 ^ 64 := Nat.pow_lt_pow_right (by omega) hk
  rw [wrap_pow k hk]
  exact u64_or_nat P (2 ^ k) hP h
theorem or_lt {P k : Nat} (hP : P < 18446744073709551616) (hk : k < 64) : P ||| 2 ^ k < 18446744073709551616 :=
  Nat.or_lt_two_pow (n := 64) hP (Nat.pow_lt_pow_right (by omega) hk)

/-! ### Whole entries, loaded and stored. -/
theorem wpList_load54 {ops : Array Oper} {rest : List Oper} {op : Oper} {a : Act} {w : World} {Q : Exit → Act → World → Prop} (hgd : op.guard = none) (x : Operand) (ho : op.op = .load 54 x)
    (b o : Nat) (hx : a.eval x = .pointer (some ⟨b, o, none⟩)) (s : ByteArray) (hc : w.rangeAt b o (ecells s))
    (h : wpList Try.prog ops Q rest (a.put op.dst (.agg (ecells s).toArray)) w) : wpList Try.prog ops Q (op :: rest) a w :=
  wpList_load_mid hgd 54 x ho b o hx (ecells s) _ hc Try.underlying54 rfl (size54 _) h
theorem wpList_store54 {ops : Array Oper} {rest : List Oper} {op : Oper} {a : Act} {w : World} {Q : Exit → Act → World → Prop} (hgd : op.guard = none) (x y : Operand) (ho : op.op = .store 54 x y)
    (b o : Nat) (s : ByteArray) (hx : a.eval x = .pointer (some ⟨b, o, none⟩)) (hy : a.eval y = .agg (ecells s).toArray) (ht : w.there b o 11)
    (h : wpList Try.prog ops Q rest (a.put op.dst undef) (w.setCells b o (ecells s))) : wpList Try.prog ops Q (op :: rest) a w :=
  wpList_store_mid hgd 54 x y ho b o (ecells s).toArray hx hy ht (size54 s) (ecells_one s) h
theorem there_new (w : World) (C : Array Value) (t : TypeId) (n : Nat) (hC : C.size = n) : (w.alloc (.cells C t)).there w.heap.size 0 n := by
  intro j hj
  have hh : (w.alloc (.cells C t)).heap[w.heap.size]? = some (.cells C t) := heap_new w _
  constructor
  · simp only [World.cell?]
    rw [hh]
    simp [hC, hj]
  · simp only [World.frozen?]
    rw [hh]
    simp

theorem below_setCells {B : Nat} {a : World} (b : Nat) (hB : B ≤ b) : ∀ (vs : List Value) (o : Nat) (w : World), Below B a w → Below B a (w.setCells b o vs)
  | [], _, _, h => h
  | v :: vs, o, w, h => below_setCells b hB vs (o + 1) (w.setCell ⟨b, o, none⟩ v) (h.setCell (p := ⟨b, o, none⟩) hB v)
theorem size_setCells (b : Nat) : ∀ (vs : List Value) (o : Nat) (w : World), (w.setCells b o vs).heap.size = w.heap.size
  | [], _, _ => rfl
  | v :: vs, o, w => (size_setCells b vs (o + 1) (w.setCell ⟨b, o, none⟩ v)).trans (by simp [World.setCell])
theorem ecells_len (s : ByteArray) : (ecells s).length = 11 := rfl

/-- One entry is stored. -/
theorem entAt_set {w : World} {g n j : Nat} {cur : Nat → ByteArray} (h : EntAt w g n cur) (hj : j < n) (s : ByteArray) : EntAt (w.setCells g (j * 11) (ecells s)) g n (fun i => if i = j then s else cur i) := by
  intro i hi
  refine ⟨?_, World.there_setCells (h i hi).2 _ _ _⟩
  by_cases e : i = j
  · subst e
    simp only [if_true]
    exact World.rangeAt_setCells_same _ _ _ _ (by rw [ecells_len]; exact (h i hi).2)
  · simp only [e, if_false]
    refine World.rangeAt_setCells_apart (h i hi).1 _ _ _ ?_
    rw [ecells_len, ecells_len]
    omega
/-- Something is stored into another block. -/
theorem entAt_apart {w : World} {g n b o : Nat} {cur : Nat → ByteArray} (h : EntAt w g n cur) (hb : g ≠ b) (vs : List Value) : EntAt (w.setCells b o vs) g n cur := fun i hi =>
  ⟨World.rangeAt_setCells_apart (h i hi).1 _ _ _ (.inl hb), World.there_setCells (h i hi).2 _ _ _⟩
theorem entAt_alloc {w : World} {g n : Nat} {cur : Nat → ByteArray} (h : EntAt w g n cur) (ob : Obj) : EntAt (w.alloc ob) g n cur := fun i hi =>
  ⟨World.rangeAt_alloc (h i hi).1 _, World.there_alloc (h i hi).2 _⟩

/-- THE INNER LOOP's STATE: 'held' lies in block h. -/
def InW (o : Nat → Nat) (x0 : Nat → ByteArray) (w wx : World) (g h n k j P : Nat) : Prop :=
  P < 18446744073709551616 ∧ g < h ∧ h < wx.heap.size ∧ Below g w wx ∧ wx.rangeAt h 0 (ecells (x0 k)) ∧ ∃ cur, Inner o x0 cur n k j P ∧ EntAt wx g n cur

theorem inW_start {o : Nat → Nat} {x0 cur : Nat → ByteArray} {w wr : World} {g n k P : Nat} (C : Array Value) (hC : C.size = 11)
    (h : P < 18446744073709551616 ∧ g < wr.heap.size ∧ Below g w wr ∧ Inner o x0 cur n k k P ∧ EntAt wr g n cur) :
    InW o x0 w ((wr.alloc (.cells C 54)).setCells wr.heap.size 0 (ecells (cur k))) g wr.heap.size n k k P := by
  obtain ⟨h1, h2, h3, h4, h5⟩ := h
  have e : cur k = x0 k := h4.kept k h4.hk h4.free
  refine ⟨h1, h2, ?_, below_setCells _ (by omega) _ _ _ (h3.alloc (by omega) _), ?_, cur, h4, entAt_apart (entAt_alloc h5 _) (by omega) _⟩
  · rw [size_setCells]; simp
  · rw [e]
    exact World.rangeAt_setCells_same _ _ _ _ (by rw [ecells_len]; exact there_new _ _ _ _ hC)

theorem inW_close {o : Nat → Nat} {x0 : Nat → ByteArray} {w wx : World} {g h n k j P : Nat} (hp : IsPerm o n) (hn : n ≤ 64) (hw : InW o x0 w wx g h n k j P) (e : o j = k) :
    P ||| 2 ^ j < 18446744073709551616 ∧ g < (wx.setCells g (j * 11) (ecells (x0 k))).heap.size ∧ Below g w (wx.setCells g (j * 11) (ecells (x0 k))) ∧ ∃ cur, Outer o x0 cur n (k + 1) (P ||| 2 ^ j) ∧ EntAt (wx.setCells g (j * 11) (ecells (x0 k))) g n cur := by
  obtain ⟨h1, h2, h3, h4, _, cur, h6, h7⟩ := hw
  have hj := h6.hj
  exact ⟨or_lt h1 (by omega), by rw [size_setCells]; omega, below_setCells _ (Nat.le_refl _) _ _ _ h4, _, inner_close hp h6 e, entAt_set h7 hj _⟩

theorem inW_step {o : Nat → Nat} {x0 : Nat → ByteArray} {w wx : World} {g h n k j P : Nat} {cur : Nat → ByteArray} (hp : IsPerm o n) (hn : n ≤ 64)
    (h1 : P < 18446744073709551616) (h2 : g < h) (h3 : h < wx.heap.size) (h4 : Below g w wx) (h5 : wx.rangeAt h 0 (ecells (x0 k))) (h6 : Inner o x0 cur n k j P) (h7 : EntAt wx g n cur) (e : o j ≠ k) :
    InW o x0 w (wx.setCells g (j * 11) (ecells (cur (o j)))) g h n k (o j) (P ||| 2 ^ j) := by
  have hj := h6.hj
  exact ⟨or_lt h1 (by omega), h2, by rw [size_setCells]; omega, below_setCells _ (Nat.le_refl _) _ _ _ h4, World.rangeAt_setCells_apart h5 _ _ _ (.inl (by omega)), _, inner_step hp h6 e, entAt_set h7 hj _⟩

set_option maxHeartbeats 2000000 in
theorem permute_any (g b2 n m : Nat) (o : Nat → Nat) (x0 : Nat → ByteArray) (w : World) (hn : n ≤ 64) (hm : n ≤ m) (hm2 : m ≤ 1048576) (hp : IsPerm o n) (hb : b2 < g) (hg : g < w.heap.size)
    (hE : EntAt w g n x0) (ho : ∀ i, i < n → w.cell? ⟨b2, i, none⟩ = some (.int .u8 (o i : Nat))) :
    Calls Try.prog 27 #[.slice (some ⟨g, 0, none⟩) n n, .slice (some ⟨b2, 0, none⟩) m m] w fun e w' => e = .returned (.tuple #[]) ∧ Below g w w' ∧ EntAt w' g n (fun i => x0 (o i)) := by
  have HP : Hid (IsPerm o n) := hp
  have HE : Hid (EntAt w g n x0) := hE
  have HO : Hid (∀ i, i < n → w.cell? ⟨b2, i, none⟩ = some (.int .u8 (o i : Nat))) := ho
  clear hp hE ho
  go_enter Try.func27, Try.ntmps27
  go_wp2
  go_loopw [4, 11] (fun p i wr => ∃ (P k : Nat), k ≤ n ∧ i = .int .i64 k ∧ p = .int .u64 (P : Nat) ∧ Hid (P < 18446744073709551616 ∧ g < wr.heap.size ∧ Below g w wr ∧ ∃ cur, Outer o x0 cur n k P ∧ EntAt wr g n cur)) (fun _ i _ => n - (intOf i).toNat)
  case atStart => exact ⟨0, 0, Nat.zero_le _, rfl, rfl, by omega, hg, Below.refl _ _, x0, outer_start o x0 n, HE.out⟩
  case round =>
    obtain ⟨P, k, hk, rfl, rfl, hrel⟩ := hrel
    rename World => wo
    by_cases hlt : k < n
    · have c0 : wo.cell? ⟨b2, k, none⟩ = some (.int .u8 (o k : Nat)) := by
        rw [hrel.out.2.2.1.cell (p := ⟨b2, k, none⟩) hb]; exact HO.out k hlt
      have hok : o k < n := HP.out.1 k hlt
      obtain ⟨hP, hgw, hbw, cur, hO, hEnt⟩ := hrel.out
      cases htb : P.testBit k
      · have hbit := bit_clear hP (by omega) htb
        by_cases hfix : o k = k
        · have hfix' : ((o k : Int) == (k : Int)) = true := by simp; omega
          have HN : Hid (P < 18446744073709551616 ∧ g < wo.heap.size ∧ Below g w wo ∧ ∃ cur, Outer o x0 cur n (k + 1) P ∧ EntAt wo g n cur) := ⟨hP, hgw, hbw, cur, outer_skip hO (.inr hfix), hEnt⟩
          clear hP hgw hbw hO hEnt htb hfix hrel
          go_wp2
          go_roundw
          case rel => exact ⟨P, k + 1, by omega, by go_num, rfl, HN⟩
          case measure => simp [intOf]; omega
        · have hfix' : ((o k : Int) == (k : Int)) = false := by simp; omega
          have HIn : Hid (P < 18446744073709551616 ∧ g < wo.heap.size ∧ Below g w wo ∧ Inner o x0 cur n k k P ∧ EntAt wo g n cur) := ⟨hP, hgw, hbw, inner_start hO hlt htb hfix, hEnt⟩
          have hR0 := (hEnt k hlt).1
          clear hP hgw hbw hO hEnt htb hfix hrel
          go_wp2_with (first
            | ((with_reducible refine wpList_load54 ?_ (.tmp 30) ?_ g (k * 11) ?_ (cur k) hR0 ?_); rfl; rfl; rfl)
            | ((with_reducible refine wpList_store54 ?_ (.tmp 6) (.tmp 31) ?_ wo.heap.size 0 (cur k) ?_ ?_ ?_ ?_); rfl; rfl; rfl; rfl; exact there_new _ _ _ _ rfl))
          go_loopw [4, 7] (fun p jj wx => ∃ (Q j : Nat), jj = .int .i64 j ∧ p = .int .u64 (Q : Nat) ∧ Hid (InW o x0 w wx g wo.heap.size n k j Q)) (fun p _ _ => leftOf n (intOf p).toNat)
          case atStart => exact ⟨P, k, rfl, rfl, inW_start _ rfl HIn.out⟩
          case round =>
            obtain ⟨Q, j, rfl, rfl, hin⟩ := hrel
            obtain ⟨h1, h2, h3, h4, h5, cur', h6, h7⟩ := hin.out
            have hj := h6.hj
            have hoj : o j < n := HP.out.1 j hj
            have c1 : wr.cell? ⟨b2, j, none⟩ = some (.int .u8 (o j : Nat)) := by
              rw [h4.cell (p := ⟨b2, j, none⟩) hb]; exact HO.out j hj
            obtain ⟨Q', hQ'⟩ : ∃ Q', Q' = Q ||| 2 ^ j := ⟨_, rfl⟩
            have hor : bits .or .u64 (Q : Int) (IntKind.u64.wrap ((2 : Int) ^ j)) = (Q' : Int) := by rw [hQ']; exact bit_or Q j h1 (by omega)
            have HM : Hid (leftOf n Q' < leftOf n Q) := by rw [hQ']; exact leftOf_lt hj h6.free
            have ht := (h7 j hj).2
            clear hbit c0 hfix' hR0 HIn
            by_cases e : o j = k
            · have e' : ((o j : Int) == (k : Int)) = true := by simp; omega
              have HC : Hid (Q' < 18446744073709551616 ∧ g < (wr.setCells g (j * 11) (ecells (x0 k))).heap.size ∧ Below g w (wr.setCells g (j * 11) (ecells (x0 k))) ∧ ∃ cur, Outer o x0 cur n (k + 1) Q' ∧ EntAt (wr.setCells g (j * 11) (ecells (x0 k))) g n cur) := by
                rw [hQ']; exact inW_close HP.out hn hin.out e
              clear h1 h2 h3 h4 h6 h7 hin hQ' e HM
              go_wp2_with (first
                | ((with_reducible refine wpList_load54 ?_ (.tmp 6) ?_ wo.heap.size 0 ?_ (x0 k) h5 ?_); rfl; rfl; rfl)
                | ((with_reducible refine wpList_store54 ?_ (.tmp 48) (.tmp 47) ?_ g (j * 11) (x0 k) ?_ ?_ ht ?_); rfl; rfl; rfl; rfl))
              go_roundw
              case rel => exact ⟨Q', k + 1, by omega, by go_num, rfl, HC⟩
              case measure => simp [intOf]; omega
            · have e' : ((o j : Int) == (k : Int)) = false := by simp; omega
              have HC : Hid (InW o x0 w (wr.setCells g (j * 11) (ecells (cur' (o j)))) g wo.heap.size n k (o j) Q') := by
                rw [hQ']; exact inW_step HP.out hn h1 h2 h3 h4 h5 h6 h7 e
              have hR1 := (h7 (o j) hoj).1
              clear h1 h2 h3 h4 h5 h6 h7 hin hQ' e
              go_wp2_with (first
                | ((with_reducible refine wpList_load54 ?_ (.tmp 53) ?_ g (o j * 11) ?_ (cur' (o j)) hR1 ?_); rfl; rfl; rfl)
                | ((with_reducible refine wpList_store54 ?_ (.tmp 56) (.tmp 54) ?_ g (j * 11) (cur' (o j)) ?_ ?_ ht ?_); rfl; rfl; rfl; rfl))
              go_roundw
              case rel => exact ⟨Q', o j, rfl, rfl, HC⟩
              case measure => simpa [intOf] using HM.out
      · have hbit := bit_set hP (by omega) htb
        have HN : Hid (P < 18446744073709551616 ∧ g < wo.heap.size ∧ Below g w wo ∧ ∃ cur, Outer o x0 cur n (k + 1) P ∧ EntAt wo g n cur) := ⟨hP, hgw, hbw, cur, outer_skip hO (.inl htb), hEnt⟩
        clear hP hgw hbw hO hEnt htb hrel
        go_wp2
        go_roundw
        case rel => exact ⟨P, k + 1, by omega, by go_num, rfl, HN⟩
        case measure => simp [intOf]; omega
    · obtain rfl : k = n := by omega
      obtain ⟨hP, hgw, hbw, cur, hO, hEnt⟩ := hrel.out
      have HF : Hid (Below g w wo ∧ EntAt wo g k (fun i => x0 (o i))) := ⟨hbw, fun i hi => by show wo.rangeAt g (i * 11) (ecells (x0 (o i))) ∧ _; rw [← outer_end hO i hi]; exact hEnt i hi⟩
      clear hP hgw hbw hO hEnt hrel
      go_wp2
      go_end0
      exact ⟨rfl, HF.out⟩

end Go.Proofs.Qxb6602732a
