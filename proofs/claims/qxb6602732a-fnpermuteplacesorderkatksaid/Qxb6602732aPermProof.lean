/-
  'Rows.FnPermutePlacesOrderKAtKSaid' PROVED: the row's step after the guide's template; the walk out of Qxb6602732aPermLaw and Qxb6602732aPermTop.
-/
import Derived.Test.Qxb6602732aPermTop
import Derived.ProofKit
import Derived.OpenShut
import Derived.ShutString
import Derived.ChangeOld
import Derived.Below
import Derived.SliceStrings
namespace Go.Proofs.Qxb6602732a.fnPermutePlacesOrderKAtK
open Go.ChangeShapes Go.WideShapes Go.ChangeAt Go.RowKit
set_option linter.unusedVariables false

theorem own : ownKnob Try.prog.godebug = none := by kernel_rfl
theorem laidOut : laidOutB Try.prog = true := by kernel_rfl

/-! ### STEP 1: THE WALK -/
theorem walk (a0 : Option Addr) (len0 cap0 : Nat) (ss : List ByteArray) (a1 : Option Addr) (len1 cap1 : Nat) (zs : List Int) (w : World) (w0 : IsStrs w a0 len0 cap0 ss) (w1 : IsRow .u8 w a1 len1 cap1 zs) :
    Calls Try.prog 7 #[.slice a0 len0 cap0, .slice a1 len1 cap1] w fun e w' => e = .returned (.bool true) ∧ Below w.heap.size w w' := by
  have m1 : len1 ≤ maxLen := by
    rcases w1 with ⟨_, rfl, _, _⟩ | ⟨_, _, h, h', _⟩
    · exact Nat.zero_le _
    · exact Nat.le_trans h h'
  by_cases h0 : len0 = 0
  · subst h0
    exact law7_zero a0 cap0 a1 len1 cap1 zs w m1 w1
  · rcases w0 with ⟨_, h, _, _⟩ | ⟨x, rfl, hl, hm, hlen, hcell, hsz⟩
    · exact absurd h h0
    · obtain ⟨b, off, spot⟩ := x
      have hspot : spot = none := by simpa [Addr.add] using World.cell?_spot (hcell 0 (by omega))
      subst hspot
      have hs : ∀ i, i < len0 → w.cell? ⟨b, off + i, none⟩ = some (.string (ss.getD i ByteArray.empty)) ∧ (ss.getD i ByteArray.empty).size ≤ maxLen := fun i hi => by
        have hi' : i < ss.length := by omega
        have hc := hcell i hi'
        rw [Addr.add_lit] at hc
        exact ⟨hc, hsz _ (by simp [List.getD, hi'])⟩
      by_cases hlong : 64 < len0 ∨ 1048576 < len1
      · exact law7_long b off len0 cap0 (fun i => ss.getD i ByteArray.empty) a1 len1 cap1 w m1 (by omega) hs hlong
      · by_cases hshort : len1 < len0
        · exact law7_short b off len0 cap0 (fun i => ss.getD i ByteArray.empty) a1 len1 cap1 w (by omega) hshort hs
        · have w1' := w1
          rcases w1 with ⟨_, h, _, _⟩ | ⟨y, rfl, hl1, hm1, hlen1, hcell1, hwf1⟩
          · omega
          · obtain ⟨b3, off3, spot3⟩ := y
            have hspot3 : spot3 = none := by simpa [Addr.add] using World.cell?_spot (hcell1 0 (by omega))
            subst hspot3
            have hz : ∀ i, i < len1 → zs.getD i 0 = (((zs.getD i 0).toNat : Nat) : Int) ∧ (zs.getD i 0).toNat ≤ 255 := fun i hi => by
              have hi' : i < zs.length := by omega
              have := bounds_u8 (hwf1 (zs.getD i 0) (by simp [List.getD, hi']))
              omega
            refine law7_any b off len0 cap0 (fun i => ss.getD i ByteArray.empty) b3 off3 len1 cap1 zs (fun i => (zs.getD i 0).toNat) w (by omega) (by omega) (by omega) hs w1' hz (fun i hi => ?_)
            have hc := hcell1 i (by omega)
            rw [Addr.add_lit] at hc
            rw [hc]
            show some (Value.int .u8 (zs.getD i 0)) = some (Value.int .u8 (((zs.getD i 0).toNat : Nat) : Int))
            rw [← (hz i hi).1]

/-! ### THE ROW's STEP -/
theorem cells9 : Try.prog.cellsOf 9 = 1 := by kernel_rfl

set_option maxRecDepth 100000 in
theorem lifted (os : Os) (started : os.Started) (H : Type) (enc : TypeId × Value → H) :
    ReturnsInHanded {} Try.checked os 7 .any (Rows.fnPermutePlacesOrderKAtKSpec.pre6 enc Try.prog Try.f7 Rows.fnPermutePlacesOrderKAtKRow.domain false) (Rows.fnPermutePlacesOrderKAtKSpec.post enc Try.prog Try.f7 false true false false) := by
  refine returnsInHanded_of_change (C := Try.checked) own started (by kernel_rfl) Try.func7
    (ChangeSpec.witness6 (enc := enc) (C := Try.checked) false ⟨#[], #[.slice none 0 0, .slice none 0 0], []⟩ 8 (by kernel_rfl) (by kernel_rfl) (by kernel_rfl) (by kernel_rfl)) ?_
  intro W base args ds gs before hval0 hW hcnd _
  have hval : ∀ (j : Nat) t v, Try.f7.params[j]? = some t → args[j]? = some v → Value.okWide Try.prog W .any base t v := hval0
  have hW' := hW
  obtain ⟨p, q, hA0, hV, rfl, hfz, hnd⟩ := hW
  have hA : DataW.TrodAll enc Try.prog W 0 (fun _ => true) true Try.f7.params.toList args.toList ds p := hA0
  rw [Try.params7] at hA hval
  obtain ⟨v0, vs0, d0, ds0, p0, q0, hargs, rfl, rfl, h0, r0⟩ := trodAll_cons hA
  obtain ⟨v1, vs1, d1, ds1, p1, q1, rfl, rfl, rfl, h1, r1⟩ := trodAll_cons r0
  obtain ⟨rfl, rfl, rfl⟩ := trodAll_nil r1
  obtain rfl : args = #[v0, v1] := by cases args; simp_all
  obtain ⟨rfl, rfl⟩ := trodVars_none hV
  obtain ⟨a0, len0, cap0, rfl⟩ := okWide_slice Try.underlying37 (hval 0 37 v0 rfl rfl)
  have k0 := h0
  have lt0 : ∀ x ∈ p0, x.block < W.heap.size := by obtain ⟨m, hm⟩ := k0; exact DataW.trod_lt m _ _ _ hm
  obtain ⟨z0, w0⟩ : ∃ ss, IsStrs W a0 len0 cap0 ss := by
    obtain ⟨fuel, hf⟩ := h0
    rcases open_strings Try.underlying37 Try.underlying9 cells9 hf with ⟨hcs, _⟩ | ⟨x, l, c, ss, hcs, _, hl, hm, hz, _, hcell, hws⟩
    · simp [Value.cells] at hcs
      obtain ⟨rfl, rfl, rfl⟩ := hcs
      exact ⟨[], .inl ⟨rfl, rfl, rfl, rfl⟩⟩
    · simp [Value.cells] at hcs
      obtain ⟨rfl, rfl, rfl⟩ := hcs
      exact ⟨ss, .inr ⟨_, rfl, hl, hm, by simpa using hz, hcell, hws⟩⟩
  obtain ⟨a1, len1, cap1, rfl⟩ := okWide_slice Try.underlying22 (hval 1 22 v1 rfl rfl)
  have k1 := h1
  have lt1 : ∀ x ∈ p1, x.block < W.heap.size := by obtain ⟨m, hm⟩ := k1; exact DataW.trod_lt m _ _ _ hm
  obtain ⟨z1, w1⟩ : ∃ zs, IsRow .u8 W a1 len1 cap1 zs := by
    obtain ⟨fuel, hf⟩ := h1
    rcases open_ints Try.underlying22 Try.underlying5 (by kernel_rfl) hf with ⟨hcs, _⟩ | ⟨x, l, c, zs, hcs, _, hl, hm, hz, _, hcell, hwz⟩
    · simp [Value.cells] at hcs
      obtain ⟨rfl, rfl, rfl⟩ := hcs
      exact ⟨[], .inl ⟨rfl, rfl, rfl, rfl⟩⟩
    · simp [Value.cells] at hcs
      obtain ⟨rfl, rfl, rfl⟩ := hcs
      exact ⟨zs, .inr ⟨_, rfl, hl, hm, by simpa using hz, hcell, hwz⟩⟩
  clear hA0 hval0
  refine (walk a0 len0 cap0 z0 a1 len1 cap1 z1 W w0 w1).mono fun e W' ⟨he, bel⟩ => ?_
  subst he
  exact ⟨_, rfl, _, _, _, [], _, [], hW', trodAll_mk1 (shut_bool Try.underlying4 _), (trodAll_cons_mk (Below.trod laidOut (by kernel_rfl) (of_decide_eq_true (by kernel_rfl)) k0 bel lt0) (trodAll_cons_mk (Below.trod laidOut (by kernel_rfl) (of_decide_eq_true (by kernel_rfl)) k1 bel lt1) trodAll_mk0)), rfl, bel.frame _, fun h => by cases h⟩

theorem over : Rows.fnPermutePlacesOrderKAtKRow.holds Try.pinned (OpenSpec.ofChange Rows.fnPermutePlacesOrderKAtKSpec) :=
  OpenClaim.holds_of_wide 7 Try.f7 rfl rfl rfl rfl rfl rfl rfl ⟨rfl, rfl, rfl, rfl, rfl⟩ rfl rfl rfl rfl rfl (by kernel_rfl) Try.func7 (by kernel_rfl)
    (of_decide_eq_true (by kernel_rfl)) (by unfold Func.isWrapper; first | (rw [if_pos (by decide +kernel)]; kernel_rfl) | (rw [if_neg (by decide +kernel)]; exact ⟨rfl, rfl⟩))
    (fun os started H enc _ => lifted os started H enc)

/-- THE STATEMENT -/
theorem proved : Rows.FnPermutePlacesOrderKAtKSaid := over
#print axioms proved
end Go.Proofs.Qxb6602732a.fnPermutePlacesOrderKAtK
