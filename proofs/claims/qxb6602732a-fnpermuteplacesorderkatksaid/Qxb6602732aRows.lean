/-
  No cell of these rows narrows 'for every input' (looked for: loops, veiled, ifaces, maps, wideKeys, modest, calm, conditions, laid).
  DERIVED. THE GIVEN ROWS OF THIS SEAT. 6 by the template 'for every input the law returns true; each argument reads behind the call as it read before'; 0 by the template 'total and deterministic' (their statements: Qxb6602732aTotals.lean).
  GIVEN WITH THE SEED: the statements are not yours to turn. If you find one false, say at which input.
  Laid BY PROGRAM, IN A SANDBOX (cutbox-rows.mjs): the forced cells as the released guide's own fill.sh prints them over the translation be81a25ef9068c4a… (all of the seat's roots in one cut). By AI agents, Wed Nov 11 2026. No macro, syntax, notation, axiom, sorry.
-/
import Derived.Test.Qxb6602732aChecked
import GoSem.Claim
import GoSem.ClaimJoined
import GoSem.ClaimMapViews
import Derived.JoinedTies
import Derived.KernelRfl
namespace Go.Proofs.Qxb6602732a
/- THE CELL 'sum', in the pinned program and in every row, IS THE sha256 OF THE DUMP (.gsa) THAT Qxb6602732aProg.lean LOADS. Nothing in Lean hashes anything: it is a label: what it is worth is what the hold of that sum in a sandbox is worth. -/
noncomputable def Try.pinned : Pinned := { name := "qxb6602732a", sum := "be81a25ef9068c4a179291f35c0b382de7d043e6280a0a951549c2c7b8dd0353", checked := Try.checked }
namespace Rows
def none {H : Type} : Left H := { results := [], args := [] }

/-- 'zzlaws_root_b1.FnHex4ReadsWhatIsWritten': WHATEVER THE INPUT: true; the input reads as it did. -/
def fnHex4ReadsWhatIsWrittenSpec : ChangeSpec := { name := "fnHex4ReadsWhatIsWritten", fn := fun _ => fun
  | [d1, d2, d3, d4] => { results := [.lit (.bool true)], args := [d1, d2, d3, d4] }
  | _ => none }
def fnHex4ReadsWhatIsWrittenRow : OpenClaim := { program := "qxb6602732a", sum := "be81a25ef9068c4a179291f35c0b382de7d043e6280a0a951549c2c7b8dd0353", func := "example.com/vouchsafe/vouchsafe/zzlaws_root_b1.FnHex4ReadsWhatIsWritten", spec := "fnHex4ReadsWhatIsWritten", apart := false }
def FnHex4ReadsWhatIsWrittenSaid : Prop := fnHex4ReadsWhatIsWrittenRow.holds Try.pinned (OpenSpec.ofChange fnHex4ReadsWhatIsWrittenSpec)

/-- ITS FALSE NEIGHBOUR: 'it returns false'. Refute it at one input. -/
def fnHex4ReadsWhatIsWrittenWrong : ChangeSpec := { name := "fnHex4ReadsWhatIsWritten", fn := fun _ => fun
  | [d1, d2, d3, d4] => { results := [.lit (.bool false)], args := [d1, d2, d3, d4] }
  | _ => none }
def FnHex4ReadsWhatIsWrittenWrongFalsely : Prop := fnHex4ReadsWhatIsWrittenRow.holds Try.pinned (OpenSpec.ofChange fnHex4ReadsWhatIsWrittenWrong)

/-- 'zzlaws_root_b1.FnIsOpaqueURIMatchesFirstColonModel': WHATEVER THE INPUT: true; the input reads as it did. -/
def fnIsOpaqueURIMatchesFirstColonModelSpec : ChangeSpec := { name := "fnIsOpaqueURIMatchesFirstColonModel", fn := fun _ => fun
  | [d] => { results := [.lit (.bool true)], args := [d] }
  | _ => none }
def fnIsOpaqueURIMatchesFirstColonModelRow : OpenClaim := { program := "qxb6602732a", sum := "be81a25ef9068c4a179291f35c0b382de7d043e6280a0a951549c2c7b8dd0353", func := "example.com/vouchsafe/vouchsafe/zzlaws_root_b1.FnIsOpaqueURIMatchesFirstColonModel", spec := "fnIsOpaqueURIMatchesFirstColonModel", apart := false }
def FnIsOpaqueURIMatchesFirstColonModelSaid : Prop := fnIsOpaqueURIMatchesFirstColonModelRow.holds Try.pinned (OpenSpec.ofChange fnIsOpaqueURIMatchesFirstColonModelSpec)

/-- ITS FALSE NEIGHBOUR: 'it returns false'. Refute it at one input. -/
def fnIsOpaqueURIMatchesFirstColonModelWrong : ChangeSpec := { name := "fnIsOpaqueURIMatchesFirstColonModel", fn := fun _ => fun
  | [d] => { results := [.lit (.bool false)], args := [d] }
  | _ => none }
def FnIsOpaqueURIMatchesFirstColonModelWrongFalsely : Prop := fnIsOpaqueURIMatchesFirstColonModelRow.holds Try.pinned (OpenSpec.ofChange fnIsOpaqueURIMatchesFirstColonModelWrong)

/-- 'zzlaws_root_b1.FnIsOpaqueURIIgnoresLetterCase': WHATEVER THE INPUT: true; the input reads as it did. -/
def fnIsOpaqueURIIgnoresLetterCaseSpec : ChangeSpec := { name := "fnIsOpaqueURIIgnoresLetterCase", fn := fun _ => fun
  | [d1, d2] => { results := [.lit (.bool true)], args := [d1, d2] }
  | _ => none }
def fnIsOpaqueURIIgnoresLetterCaseRow : OpenClaim := { program := "qxb6602732a", sum := "be81a25ef9068c4a179291f35c0b382de7d043e6280a0a951549c2c7b8dd0353", func := "example.com/vouchsafe/vouchsafe/zzlaws_root_b1.FnIsOpaqueURIIgnoresLetterCase", spec := "fnIsOpaqueURIIgnoresLetterCase", apart := false }
def FnIsOpaqueURIIgnoresLetterCaseSaid : Prop := fnIsOpaqueURIIgnoresLetterCaseRow.holds Try.pinned (OpenSpec.ofChange fnIsOpaqueURIIgnoresLetterCaseSpec)

/-- ITS FALSE NEIGHBOUR: 'it returns false'. Refute it at one input. -/
def fnIsOpaqueURIIgnoresLetterCaseWrong : ChangeSpec := { name := "fnIsOpaqueURIIgnoresLetterCase", fn := fun _ => fun
  | [d1, d2] => { results := [.lit (.bool false)], args := [d1, d2] }
  | _ => none }
def FnIsOpaqueURIIgnoresLetterCaseWrongFalsely : Prop := fnIsOpaqueURIIgnoresLetterCaseRow.holds Try.pinned (OpenSpec.ofChange fnIsOpaqueURIIgnoresLetterCaseWrong)

/-- 'zzlaws_root_b1.FnIsOpaqueURIPrefixesPastColonStayOpaque': WHATEVER THE INPUT: true; the input reads as it did. -/
def fnIsOpaqueURIPrefixesPastColonStayOpaqueSpec : ChangeSpec := { name := "fnIsOpaqueURIPrefixesPastColonStayOpaque", fn := fun _ => fun
  | [d1, d2] => { results := [.lit (.bool true)], args := [d1, d2] }
  | _ => none }
def fnIsOpaqueURIPrefixesPastColonStayOpaqueRow : OpenClaim := { program := "qxb6602732a", sum := "be81a25ef9068c4a179291f35c0b382de7d043e6280a0a951549c2c7b8dd0353", func := "example.com/vouchsafe/vouchsafe/zzlaws_root_b1.FnIsOpaqueURIPrefixesPastColonStayOpaque", spec := "fnIsOpaqueURIPrefixesPastColonStayOpaque", apart := false }
def FnIsOpaqueURIPrefixesPastColonStayOpaqueSaid : Prop := fnIsOpaqueURIPrefixesPastColonStayOpaqueRow.holds Try.pinned (OpenSpec.ofChange fnIsOpaqueURIPrefixesPastColonStayOpaqueSpec)

/-- ITS FALSE NEIGHBOUR: 'it returns false'. Refute it at one input. -/
def fnIsOpaqueURIPrefixesPastColonStayOpaqueWrong : ChangeSpec := { name := "fnIsOpaqueURIPrefixesPastColonStayOpaque", fn := fun _ => fun
  | [d1, d2] => { results := [.lit (.bool false)], args := [d1, d2] }
  | _ => none }
def FnIsOpaqueURIPrefixesPastColonStayOpaqueWrongFalsely : Prop := fnIsOpaqueURIPrefixesPastColonStayOpaqueRow.holds Try.pinned (OpenSpec.ofChange fnIsOpaqueURIPrefixesPastColonStayOpaqueWrong)

/-- 'zzlaws_root_b1.FnPermutePlacesOrderKAtK': WHATEVER THE INPUT: true; the input reads as it did. -/
def fnPermutePlacesOrderKAtKSpec : ChangeSpec := { name := "fnPermutePlacesOrderKAtK", fn := fun _ => fun
  | [d1, d2] => { results := [.lit (.bool true)], args := [d1, d2] }
  | _ => none }
def fnPermutePlacesOrderKAtKRow : OpenClaim := { program := "qxb6602732a", sum := "be81a25ef9068c4a179291f35c0b382de7d043e6280a0a951549c2c7b8dd0353", func := "example.com/vouchsafe/vouchsafe/zzlaws_root_b1.FnPermutePlacesOrderKAtK", spec := "fnPermutePlacesOrderKAtK", apart := false }
def FnPermutePlacesOrderKAtKSaid : Prop := fnPermutePlacesOrderKAtKRow.holds Try.pinned (OpenSpec.ofChange fnPermutePlacesOrderKAtKSpec)

/-- ITS FALSE NEIGHBOUR: 'it returns false'. Refute it at one input. -/
def fnPermutePlacesOrderKAtKWrong : ChangeSpec := { name := "fnPermutePlacesOrderKAtK", fn := fun _ => fun
  | [d1, d2] => { results := [.lit (.bool false)], args := [d1, d2] }
  | _ => none }
def FnPermutePlacesOrderKAtKWrongFalsely : Prop := fnPermutePlacesOrderKAtKRow.holds Try.pinned (OpenSpec.ofChange fnPermutePlacesOrderKAtKWrong)

/-- 'zzlaws_root_b1.FnPermuteThenInverseRestores': WHATEVER THE INPUT: true; the input reads as it did. -/
def fnPermuteThenInverseRestoresSpec : ChangeSpec := { name := "fnPermuteThenInverseRestores", fn := fun _ => fun
  | [d1, d2] => { results := [.lit (.bool true)], args := [d1, d2] }
  | _ => none }
def fnPermuteThenInverseRestoresRow : OpenClaim := { program := "qxb6602732a", sum := "be81a25ef9068c4a179291f35c0b382de7d043e6280a0a951549c2c7b8dd0353", func := "example.com/vouchsafe/vouchsafe/zzlaws_root_b1.FnPermuteThenInverseRestores", spec := "fnPermuteThenInverseRestores", apart := false }
def FnPermuteThenInverseRestoresSaid : Prop := fnPermuteThenInverseRestoresRow.holds Try.pinned (OpenSpec.ofChange fnPermuteThenInverseRestoresSpec)

/-- ITS FALSE NEIGHBOUR: 'it returns false'. Refute it at one input. -/
def fnPermuteThenInverseRestoresWrong : ChangeSpec := { name := "fnPermuteThenInverseRestores", fn := fun _ => fun
  | [d1, d2] => { results := [.lit (.bool false)], args := [d1, d2] }
  | _ => none }
def FnPermuteThenInverseRestoresWrongFalsely : Prop := fnPermuteThenInverseRestoresRow.holds Try.pinned (OpenSpec.ofChange fnPermuteThenInverseRestoresWrong)

end Rows
end Go.Proofs.Qxb6602732a
