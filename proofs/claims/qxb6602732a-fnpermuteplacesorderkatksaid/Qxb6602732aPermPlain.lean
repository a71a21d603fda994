/-
  PLAIN LAWS for permute: a permutation moved cycle by cycle: no Go in sight.
-/
import Derived.WalkKit
namespace Go.Proofs.Qxb6602732a

/-- o is a permutation of 0 .. n-1. -/
def IsPerm (o : Nat → Nat) (n : Nat) : Prop := (∀ k, k < n → o k < n) ∧ ∀ i j, i < n → j < n → o i = o j → i = j

section
variable {α : Type}

/-- BETWEEN TWO CYCLES: the placed places hold their entries, all others are as they were; what is placed is whole cycles; before k every place is placed or stays. -/
structure Outer (o : Nat → Nat) (x0 cur : Nat → α) (n k p : Nat) : Prop where
  done : ∀ i, i < n → p.testBit i = true → cur i = x0 (o i)
  kept : ∀ i, i < n → p.testBit i = false → cur i = x0 i
  shut : ∀ i, i < n → p.testBit i = p.testBit (o i)
  past : ∀ i, i < k → i < n → p.testBit i = true ∨ o i = i

/-- INSIDE A CYCLE that began at k: j is the next place to be filled. -/
structure Inner (o : Nat → Nat) (x0 cur : Nat → α) (n k j p : Nat) : Prop where
  done : ∀ i, i < n → p.testBit i = true → cur i = x0 (o i)
  kept : ∀ i, i < n → p.testBit i = false → cur i = x0 i
  fwd : ∀ i, i < n → p.testBit i = true → p.testBit (o i) = true ∨ o i = j
  bwd : ∀ i, i < n → p.testBit i = false → p.testBit (o i) = true → o i = k
  hk : k < n
  hj : j < n
  free : p.testBit j = false
  from_ : j = k ∨ ∃ l, l < n ∧ p.testBit l = true ∧ o l = j
  moves : o k ≠ k
  at_k : k = j ∨ p.testBit k = true
  past : ∀ i, i < k → i < n → p.testBit i = true ∨ o i = i

theorem tb_or (p j i : Nat) : (p ||| 2 ^ j).testBit i = (p.testBit i || decide (j = i)) := by
  rw [Nat.testBit_or, Nat.testBit_two_pow]

variable {o : Nat → Nat} {x0 cur : Nat → α} {n k j p : Nat}

theorem outer_start (o : Nat → Nat) (x0 : Nat → α) (n : Nat) : Outer o x0 x0 n 0 0 :=
  ⟨fun i _ h => by simp at h, fun _ _ _ => rfl, fun _ _ => by simp, fun i h _ => by omega⟩

/-- A place that is placed, or stays where it is, is passed over. -/
theorem outer_skip (h : Outer o x0 cur n k p) (hs : p.testBit k = true ∨ o k = k) : Outer o x0 cur n (k + 1) p :=
  ⟨h.done, h.kept, h.shut, fun i hi hn => by
    by_cases e : i = k
    · subst e; exact hs
    · exact h.past i (by omega) hn⟩

theorem inner_start (h : Outer o x0 cur n k p) (hk : k < n) (hf : p.testBit k = false) (hm : o k ≠ k) : Inner o x0 cur n k k p where
  done := h.done
  kept := h.kept
  fwd := fun i hi ht => .inl (by rw [← h.shut i hi]; exact ht)
  bwd := fun i hi hf' ht => by rw [← h.shut i hi, hf'] at ht; cases ht
  hk := hk
  hj := hk
  free := hf
  from_ := .inl rfl
  moves := hm
  at_k := .inl rfl
  past := h.past

/-- j does not lead to itself. -/
theorem inner_ne (hp : IsPerm o n) (h : Inner o x0 cur n k j p) : o j ≠ j := by
  intro e
  rcases h.from_ with rfl | ⟨l, hl, ht, hlj⟩
  · exact h.moves e
  · have := hp.2 l j hl h.hj (hlj.trans e.symm)
    subst this
    rw [h.free] at ht; cases ht

/-- Nothing unplaced but j leads to j. -/
theorem inner_pre (hp : IsPerm o n) (h : Inner o x0 cur n k j p) {i : Nat} (hi : i < n) (hf : p.testBit i = false) (hij : i ≠ j) (e : o i = j) : o i = k := by
  rcases h.from_ with rfl | ⟨l, hl, ht, hlj⟩
  · exact e
  · have := hp.2 l i hl hi (hlj.trans e.symm)
    subst this
    rw [hf] at ht; cases ht

/-- The cycle closes: j gets what stood at k. -/
theorem inner_close (hp : IsPerm o n) (h : Inner o x0 cur n k j p) (e : o j = k) : Outer o x0 (fun i => if i = j then x0 k else cur i) n (k + 1) (p ||| 2 ^ j) := by
  have kin : (p ||| 2 ^ j).testBit k = true := by
    rw [tb_or]
    rcases h.at_k with hh | hh
    · simp [hh]
    · simp [hh]
  refine ⟨fun i hi ht => ?_, fun i hi hf => ?_, fun i hi => ?_, fun i hi hn => ?_⟩
  · by_cases hij : i = j
    · subst hij; simp [e]
    · simp only [hij, if_false]
      rw [tb_or] at ht
      have : p.testBit i = true := by simpa [Ne.symm hij] using ht
      exact h.done i hi this
  · rw [tb_or] at hf
    simp at hf
    simp only [Ne.symm hf.2, if_false]
    exact h.kept i hi hf.1
  · rw [Bool.eq_iff_iff]
    constructor
    · intro ht
      by_cases hij : i = j
      · subst hij; rw [e]; exact kin
      · rw [tb_or] at ht
        have : p.testBit i = true := by simpa [Ne.symm hij] using ht
        rw [tb_or]
        rcases h.fwd i hi this with hh | hh
        · simp [hh]
        · simp [hh]
    · intro ht
      rw [tb_or]
      by_cases hij : i = j
      · simp [hij]
      · cases hb : p.testBit i
        · exfalso
          rw [tb_or] at ht
          have hk' : o i = k := by
            cases ho : p.testBit (o i)
            · rw [ho] at ht
              have hji : j = o i := by simpa using ht
              exact inner_pre hp h hi hb hij hji.symm
            · exact h.bwd i hi hb ho
          exact hij (hp.2 i j hi h.hj (hk'.trans e.symm))
        · simp
  · by_cases e' : i = k
    · subst e'; exact .inl kin
    · rcases h.past i (by omega) hn with hh | hh
      · exact .inl (by rw [tb_or]; simp [hh])
      · exact .inr hh

/-- The cycle goes on: j gets what stands at o j, which is not placed yet. -/
theorem inner_read (hp : IsPerm o n) (h : Inner o x0 cur n k j p) (e : o j ≠ k) : p.testBit (o j) = false ∧ cur (o j) = x0 (o j) := by
  have hf : p.testBit (o j) = false := by
    cases hb : p.testBit (o j)
    · rfl
    · exact absurd (h.bwd j h.hj h.free hb) e
  exact ⟨hf, h.kept _ (hp.1 j h.hj) hf⟩

theorem inner_step (hp : IsPerm o n) (h : Inner o x0 cur n k j p) (e : o j ≠ k) : Inner o x0 (fun i => if i = j then cur (o j) else cur i) n k (o j) (p ||| 2 ^ j) := by
  have hr := inner_read hp h e
  have hne := inner_ne hp h
  refine ⟨fun i hi ht => ?_, fun i hi hf => ?_, fun i hi ht => ?_, fun i hi hf ht => ?_, h.hk, hp.1 j h.hj, ?_, .inr ⟨j, h.hj, by rw [tb_or]; simp, rfl⟩, h.moves, ?_, fun i hi hn => ?_⟩
  · by_cases hij : i = j
    · subst hij; simp [hr.2]
    · simp only [hij, if_false]
      rw [tb_or] at ht
      have : p.testBit i = true := by simpa [Ne.symm hij] using ht
      exact h.done i hi this
  · rw [tb_or] at hf
    simp at hf
    simp only [Ne.symm hf.2, if_false]
    exact h.kept i hi hf.1
  · by_cases hij : i = j
    · subst hij; exact .inr rfl
    · rw [tb_or] at ht
      have : p.testBit i = true := by simpa [Ne.symm hij] using ht
      rw [tb_or]
      rcases h.fwd i hi this with hh | hh
      · exact .inl (by simp [hh])
      · exact .inl (by simp [hh])
  · rw [tb_or] at hf ht
    simp at hf
    cases ho : p.testBit (o i)
    · rw [ho] at ht
      have hji : j = o i := by simpa using ht
      exact inner_pre hp h hi hf.1 (Ne.symm hf.2) hji.symm
    · exact h.bwd i hi hf.1 ho
  · rw [tb_or, hr.1]
    simp [Ne.symm hne]
  · rw [tb_or]
    rcases h.at_k with hh | hh
    · exact .inr (by simp [hh])
    · exact .inr (by simp [hh])
  · rcases h.past i hi hn with hh | hh
    · exact .inl (by rw [tb_or]; simp [hh])
    · exact .inr hh

theorem outer_end (h : Outer o x0 cur n n p) : ∀ i, i < n → cur i = x0 (o i) := by
  intro i hi
  cases hb : p.testBit i
  · rcases h.past i hi hi with hh | hh
    · rw [hb] at hh; cases hh
    · rw [h.kept i hi hb, hh]
  · exact h.done i hi hb
end

/-- How many of the n places are not placed: the inner loop's measure. -/
def leftOf (n p : Nat) : Nat := ((List.range n).filter fun i => !p.testBit i).length
theorem filter_drop {l : List Nat} {j : Nat} {f g : Nat → Bool} (hj : j ∈ l) (hfj : f j = true) (hgj : g j = false) (hle : ∀ i, g i = true → f i = true) : (l.filter g).length < (l.filter f).length := by
  induction l with
  | nil => cases hj
  | cons a t ih =>
    have hsub : (t.filter g).length ≤ (t.filter f).length := by
      clear ih hj
      induction t with
      | nil => simp
      | cons b t ih2 =>
        cases hg : g b
        · cases hf : f b <;> simp [hg, hf] <;> omega
        · simp [hg, hle b hg]; omega
    by_cases e : a = j
    · subst e
      simp [hfj, hgj]
      omega
    · have hj' : j ∈ t := by
        rcases List.mem_cons.1 hj with h | h
        · exact absurd h.symm e
        · exact h
      have := ih hj'
      cases hg : g a
      · cases hf : f a <;> simp [hg, hf] <;> omega
      · simp [hg, hle a hg]; omega
theorem leftOf_lt {n p j : Nat} (hj : j < n) (hf : p.testBit j = false) : leftOf n (p ||| 2 ^ j) < leftOf n p := by
  unfold leftOf
  refine filter_drop (j := j) (List.mem_range.2 hj) (by simp [hf]) (by simp) ?_
  intro i hi
  simp at hi
  simp [hi.1]

end Go.Proofs.Qxb6602732a
