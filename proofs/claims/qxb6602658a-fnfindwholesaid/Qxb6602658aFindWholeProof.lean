/-
  'Rows.FnFindWholeSaid' PROVED: the row's step after the guide's template; the walk is Qxb6602658aFindWalks.
-/
import Derived.Test.Qxb6602658aFindWalks
import Derived.ProofKit
import Derived.OpenShut
import Derived.ShutString
import Derived.ChangeOld
import Derived.Below
import Derived.Deep.Slices
namespace Go.Proofs.Qxb6602658a.fnFindWhole
open Go.ChangeShapes Go.WideShapes Go.ChangeAt Go.RowKit Go.WideMaps Go.WideElems Go.Maps
open Go.ChangeMaps (open_string shut_string)

theorem own : ownKnob Try.prog.godebug = none := by kernel_rfl
theorem laidOut : laidOutB Try.prog = true := by kernel_rfl
theorem law9 : Keyed Try.prog 9 := string_keyed Try.underlying9
theorem zero3 (w : World) : (zeroValue 3).run Try.prog w = .ok (.int .i64 0) w := by kernel_rfl
theorem cells31 : Try.prog.cellsOf 31 = 1 := by kernel_rfl

/-- The look-up at one map of the slice: the same answer in every later world. -/
theorem look_one {H : Type} {enc : TypeId × Value → H} {W : World} {fuel : Nat} {V : Value} {x : DataW H × List MemPlace} (id : ByteArray) (hid : id.size ≤ maxLen)
    (hf : DataW.trod enc Try.prog W 0 (fun _ => true) true fuel 31 [V] = some x) :
    ∃ y : Option Nat × Int × Bool, V = .map y.1 ∧ ∀ wx, Below W.heap.size W wx → (Instr.lookup 31 (.map y.1) (.string id) true).run Try.prog wx = .ok (.tuple #[.int .i64 y.2.1, .bool y.2.2]) wx := by
  have hkey := keyOf_string_mk (P := Try.prog) Try.underlying9 hid
  rcases open_map Try.underlying31 hf with ⟨hcs, _⟩ | ⟨bm, es, clock, m, rfl, hcs, hb, _, F, _⟩
  · obtain rfl : V = .map none := by simpa using hcs
    refine ⟨(none, 0, false), rfl, fun wx _ => ?_⟩
    exact look_nil (w := wx) true law9 Try.underlying31 (zero3 _) hkey
  · obtain rfl : V = .map (some bm) := by simpa using hcs
    have hlt : bm < W.heap.size := by
      by_cases h : bm < W.heap.size
      · exact h
      · rw [Array.getElem?_eq_none (Nat.le_of_not_lt h)] at hb; cases hb
    obtain ⟨D, one⟩ : ∃ D : DataW H, ∀ wx, Below W.heap.size W wx → ∃ c, (Instr.lookup 31 (.map (some bm)) (.string id) true).run Try.prog wx = .ok (.tuple #[.int .i64 c, .bool (Maps.has D (.string id.data.toList))]) wx ∧
        D.atKey (.string id.data.toList) (.lit (.int .i64 0)) = .lit (.int .i64 c) := by
      refine ⟨DataW.map ((es.toList.map (WideElems.rg Try.prog 9 (elemAt enc Try.prog W 0 (fun _ => true) true m 3))).foldr DataW.insert []), fun wx hbel => ?_⟩
      have hown := World.ownsMap_of_fit (w := wx) (R := plainElem Try.prog 3) ((hbel.block bm hlt).trans hb) F (fun x _ z hz => elemAt_plainElem_int Try.underlying3 hz)
      obtain ⟨v, ps, hrun, hv⟩ := hown.look_ok law9 Try.underlying31 (zero3 _) (zd := .lit (.int .i64 0)) (zp := []) (plainElem_int Try.underlying3 (by decide)) hkey
      obtain ⟨c, rfl, hc, _⟩ := plainElem_int_inv Try.underlying3 hv
      exact ⟨c, hrun, congrArg Prod.fst hc⟩
    obtain ⟨c0, _, e0⟩ := one W (Below.refl _ _)
    refine ⟨(some bm, c0, Maps.has D (.string id.data.toList)), rfl, fun wx hbel => ?_⟩
    obtain ⟨c, hrun, e1⟩ := one wx hbel
    rw [e0] at e1
    obtain rfl : c0 = c := by injection e1 with e; injection e
    exact hrun


/-- What the walk is told of the slice of maps that came in. -/
theorem looks_of {H : Type} {enc : TypeId × Value → H} {W : World} {a0 : Option Addr} {len cap : Nat} {d : DataW H} {ps : List MemPlace} (id : ByteArray) (hid : id.size ≤ maxLen)
    (h : DataW.Trod enc Try.prog W 0 (fun _ => true) true 28 (.slice a0 len cap) d ps) :
    (a0 = none ∧ len = 0 ∧ cap = 0) ∨ ∃ (a : Addr) (m : Nat → Option Nat) (v : Nat → Int) (ok : Nat → Bool), a0 = some a ∧ len ≤ maxLen ∧ (∀ i, i < len → W.cell? (a.add i) = some (.map (m i))) ∧
      ∀ wx, Below W.heap.size W wx → ∀ i, i < len → (Instr.lookup 31 (.map (m i)) (.string id) true).run Try.prog wx = .ok (.tuple #[.int .i64 (v i), .bool (ok i)]) wx := by
  obtain ⟨fuel, hf⟩ := h
  rcases Deep.open_slice1 Try.underlying28 cells31 hf with ⟨hcs, _⟩ | ⟨a, l, c, m, n, V, D, Pl, hcs, _, hl, hm, hmm, _, hV⟩
  · simp [Value.cells] at hcs
    exact .inl hcs
  · simp [Value.cells] at hcs
    obtain ⟨rfl, rfl, rfl⟩ := hcs
    have hml : len ≤ m := by rw [hmm]; simpa using hl
    obtain ⟨f, hfn⟩ := Deep.choose_lt (n := len) (fun i hi => look_one id hid (hV i (by omega)).2)
    refine .inr ⟨a, fun i => (f i).1, fun i => (f i).2.1, fun i => (f i).2.2, rfl, by omega, fun i hi => ?_, fun wx hb i hi => (hfn i hi).2 wx hb⟩
    rw [(hV i (by omega)).1, (hfn i hi).1]

theorem walk {H : Type} {enc : TypeId × Value → H} {a0 : Option Addr} {len cap : Nat} {d : DataW H} {ps : List MemPlace} (id : ByteArray) (hid : id.size ≤ maxLen) (w : World)
    (h : DataW.Trod enc Try.prog w 0 (fun _ => true) true 28 (.slice a0 len cap) d ps) :
    Calls Try.prog 8 #[.slice a0 len cap, .string id] w fun e w' => e = .returned (.bool true) ∧ Below w.heap.size w w' := by
  rcases looks_of id hid h with ⟨rfl, rfl, rfl⟩ | ⟨a, m, v, ok, rfl, hl, hcell, hlook⟩
  · by_cases h2 : id.size ≤ 1048576
    · exact whole_nil id w h2
    · exact whole_long none 0 0 id w (by unfold maxLen; omega) hid (.inr (.inl (by omega)))
  · by_cases h1 : len ≤ 65536 ∧ id.size ≤ 1048576 ∧ 8 * len + id.size ≤ 1048576
    · exact whole_any a len cap m id v ok w h1.1 h1.2.1 h1.2.2 hcell hlook
    · refine whole_long (some a) len cap id w hl hid ?_
      omega

set_option maxRecDepth 100000 in
theorem lifted (os : Os) (started : os.Started) (H : Type) (enc : TypeId × Value → H) :
    ReturnsInHanded {} Try.checked os 8 .any (Rows.fnFindWholeSpec.pre6 enc Try.prog Try.f8 Rows.fnFindWholeRow.domain false) (Rows.fnFindWholeSpec.post enc Try.prog Try.f8 false true false false) := by
  refine returnsInHanded_of_change (C := Try.checked) own started (by kernel_rfl) Try.func8
    (ChangeSpec.witness6 (enc := enc) (C := Try.checked) false ⟨#[], #[.slice none 0 0, .string ByteArray.empty], []⟩ 8 (by kernel_rfl) (by kernel_rfl) (by kernel_rfl) (by kernel_rfl)) ?_
  intro W base args ds gs before hval0 hW hcnd _
  have hval : ∀ (j : Nat) t v, Try.f8.params[j]? = some t → args[j]? = some v → Value.okWide Try.prog W .any base t v := hval0
  have hW' := hW
  obtain ⟨p, q, hA0, hV, rfl, hfz, hnd⟩ := hW
  have hA : DataW.TrodAll enc Try.prog W 0 (fun _ => true) true Try.f8.params.toList args.toList ds p := hA0
  rw [Try.params8] at hA hval
  obtain ⟨v0, vs0, d0, ds0, p0, q0, hargs, rfl, rfl, h0, r0⟩ := trodAll_cons hA
  obtain ⟨v1, vs1, d1, ds1, p1, q1, rfl, rfl, rfl, h1, r1⟩ := trodAll_cons r0
  obtain ⟨rfl, rfl, rfl⟩ := trodAll_nil r1
  obtain rfl : args = #[v0, v1] := by cases args; simp_all
  obtain ⟨rfl, rfl⟩ := trodVars_none hV
  obtain ⟨a0, len0, cap0, rfl⟩ := okWide_slice Try.underlying28 (hval 0 28 v0 rfl rfl)
  have k0 := h0
  have lt0 : ∀ x ∈ p0, x.block < W.heap.size := by obtain ⟨m, hm⟩ := k0; exact DataW.trod_lt m _ _ _ hm
  obtain ⟨a1, rfl, rfl, rfl, w1⟩ := open_string Try.underlying9 (hval 1 9 v1 rfl rfl) h1
  clear hA0 hval0
  refine (walk a1 w1 W h0).mono fun e W' ⟨he, bel⟩ => ?_
  subst he
  exact ⟨_, rfl, _, _, _, [], _, [], hW', trodAll_mk1 (shut_bool Try.underlying4 _), (trodAll_cons_mk (Below.trod laidOut (by kernel_rfl) (of_decide_eq_true (by kernel_rfl)) k0 bel lt0) (trodAll_cons_mk (shut_string Try.underlying9 w1) trodAll_mk0)), rfl, bel.frame _, fun h => by cases h⟩

theorem over : Rows.fnFindWholeRow.holds Try.pinned (OpenSpec.ofChange Rows.fnFindWholeSpec) :=
  OpenClaim.holds_of_wide 8 Try.f8 rfl rfl rfl rfl rfl rfl rfl ⟨rfl, rfl, rfl, rfl, rfl⟩ rfl rfl rfl rfl rfl (by kernel_rfl) Try.func8 (by kernel_rfl)
    (of_decide_eq_true (by kernel_rfl)) (by unfold Func.isWrapper; first | (rw [if_pos (by decide +kernel)]; kernel_rfl) | (rw [if_neg (by decide +kernel)]; exact ⟨rfl, rfl⟩))
    (fun os started H enc _ => lifted os started H enc)

theorem proved : Rows.FnFindWholeSaid := over
#print axioms proved
end Go.Proofs.Qxb6602658a.fnFindWhole
