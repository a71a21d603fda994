/-
  NARROWER THAN 'FOR EVERY INPUT', by the rows' own cells (each row's printed sentence says how): FnFindWhole: maps · FnFindSplit: maps.
  DERIVED. THE GIVEN ROWS OF THIS SEAT. 7 by the template 'for every input the law returns true; each argument reads behind the call as it read before'; 0 by the template 'total and deterministic' (their statements: Qxb6602658aTotals.lean).
  GIVEN WITH THE SEED: the statements are not yours to turn. If you find one false, say at which input.
  Laid BY PROGRAM, IN A SANDBOX (cutbox-rows.mjs): the forced cells as the released guide's own fill.sh prints them over the translation b8143b0367906b28… (all of the seat's roots in one cut). By AI agents, Wed Nov 11 2026. No macro, syntax, notation, axiom, sorry.
-/
import Derived.Test.Qxb6602658aChecked
import GoSem.Claim
import GoSem.ClaimJoined
import GoSem.ClaimMapViews
import Derived.JoinedTies
import Derived.KernelRfl
namespace Go.Proofs.Qxb6602658a
/- THE CELL 'sum', in the pinned program and in every row, IS THE sha256 OF THE DUMP (.gsa) THAT Qxb6602658aProg.lean LOADS. Nothing in Lean hashes anything: it is a label: what it is worth is what the hold of that sum in a sandbox is worth. -/
noncomputable def Try.pinned : Pinned := { name := "qxb6602658a", sum := "b8143b0367906b2896e4a5e30b52456c241901bea3b72d6dffad2050206fa196", checked := Try.checked }
namespace Rows
def none {H : Type} : Left H := { results := [], args := [] }

/-- 'zzlaws_internal_store_b1.FnValidIDConcat': WHATEVER THE INPUT: true; the input reads as it did. -/
def fnValidIDConcatSpec : ChangeSpec := { name := "fnValidIDConcat", fn := fun _ => fun
  | [d1, d2] => { results := [.lit (.bool true)], args := [d1, d2] }
  | _ => none }
def fnValidIDConcatRow : OpenClaim := { program := "qxb6602658a", sum := "b8143b0367906b2896e4a5e30b52456c241901bea3b72d6dffad2050206fa196", func := "example.com/shelfmark/shelfmark/zzlaws_internal_store_b1.FnValidIDConcat", spec := "fnValidIDConcat", apart := false }
def FnValidIDConcatSaid : Prop := fnValidIDConcatRow.holds Try.pinned (OpenSpec.ofChange fnValidIDConcatSpec)

/-- ITS FALSE NEIGHBOUR: 'it returns false'. Refute it at one input. -/
def fnValidIDConcatWrong : ChangeSpec := { name := "fnValidIDConcat", fn := fun _ => fun
  | [d1, d2] => { results := [.lit (.bool false)], args := [d1, d2] }
  | _ => none }
def FnValidIDConcatWrongFalsely : Prop := fnValidIDConcatRow.holds Try.pinned (OpenSpec.ofChange fnValidIDConcatWrong)

/-- 'zzlaws_internal_store_b1.FnHexIsValidID': WHATEVER THE INPUT: true; the input reads as it did. -/
def fnHexIsValidIDSpec : ChangeSpec := { name := "fnHexIsValidID", fn := fun _ => fun
  | [d1, d2] => { results := [.lit (.bool true)], args := [d1, d2] }
  | _ => none }
def fnHexIsValidIDRow : OpenClaim := { program := "qxb6602658a", sum := "b8143b0367906b2896e4a5e30b52456c241901bea3b72d6dffad2050206fa196", func := "example.com/shelfmark/shelfmark/zzlaws_internal_store_b1.FnHexIsValidID", spec := "fnHexIsValidID", apart := false }
def FnHexIsValidIDSaid : Prop := fnHexIsValidIDRow.holds Try.pinned (OpenSpec.ofChange fnHexIsValidIDSpec)

/-- ITS FALSE NEIGHBOUR: 'it returns false'. Refute it at one input. -/
def fnHexIsValidIDWrong : ChangeSpec := { name := "fnHexIsValidID", fn := fun _ => fun
  | [d1, d2] => { results := [.lit (.bool false)], args := [d1, d2] }
  | _ => none }
def FnHexIsValidIDWrongFalsely : Prop := fnHexIsValidIDRow.holds Try.pinned (OpenSpec.ofChange fnHexIsValidIDWrong)

/-- 'zzlaws_internal_store_b1.FnIsHexWhole': WHATEVER THE INPUT: true; the input reads as it did. -/
def fnIsHexWholeSpec : ChangeSpec := { name := "fnIsHexWhole", fn := fun _ => fun
  | [d1, d2] => { results := [.lit (.bool true)], args := [d1, d2] }
  | _ => none }
def fnIsHexWholeRow : OpenClaim := { program := "qxb6602658a", sum := "b8143b0367906b2896e4a5e30b52456c241901bea3b72d6dffad2050206fa196", func := "example.com/shelfmark/shelfmark/zzlaws_internal_store_b1.FnIsHexWhole", spec := "fnIsHexWhole", apart := false }
def FnIsHexWholeSaid : Prop := fnIsHexWholeRow.holds Try.pinned (OpenSpec.ofChange fnIsHexWholeSpec)

/-- ITS FALSE NEIGHBOUR: 'it returns false'. Refute it at one input. -/
def fnIsHexWholeWrong : ChangeSpec := { name := "fnIsHexWhole", fn := fun _ => fun
  | [d1, d2] => { results := [.lit (.bool false)], args := [d1, d2] }
  | _ => none }
def FnIsHexWholeWrongFalsely : Prop := fnIsHexWholeRow.holds Try.pinned (OpenSpec.ofChange fnIsHexWholeWrong)

/-- 'zzlaws_internal_store_b1.FnIsHexNegativeRefused': WHATEVER THE INPUT: true; the input reads as it did. -/
def fnIsHexNegativeRefusedSpec : ChangeSpec := { name := "fnIsHexNegativeRefused", fn := fun _ => fun
  | [d1, d2] => { results := [.lit (.bool true)], args := [d1, d2] }
  | _ => none }
def fnIsHexNegativeRefusedRow : OpenClaim := { program := "qxb6602658a", sum := "b8143b0367906b2896e4a5e30b52456c241901bea3b72d6dffad2050206fa196", func := "example.com/shelfmark/shelfmark/zzlaws_internal_store_b1.FnIsHexNegativeRefused", spec := "fnIsHexNegativeRefused", apart := false }
def FnIsHexNegativeRefusedSaid : Prop := fnIsHexNegativeRefusedRow.holds Try.pinned (OpenSpec.ofChange fnIsHexNegativeRefusedSpec)

/-- ITS FALSE NEIGHBOUR: 'it returns false'. Refute it at one input. -/
def fnIsHexNegativeRefusedWrong : ChangeSpec := { name := "fnIsHexNegativeRefused", fn := fun _ => fun
  | [d1, d2] => { results := [.lit (.bool false)], args := [d1, d2] }
  | _ => none }
def FnIsHexNegativeRefusedWrongFalsely : Prop := fnIsHexNegativeRefusedRow.holds Try.pinned (OpenSpec.ofChange fnIsHexNegativeRefusedWrong)

/-- 'zzlaws_internal_store_b1.FnIsHexAcceptsEncoding': WHATEVER THE INPUT: true; the input reads as it did. -/
def fnIsHexAcceptsEncodingSpec : ChangeSpec := { name := "fnIsHexAcceptsEncoding", fn := fun _ => fun
  | [d] => { results := [.lit (.bool true)], args := [d] }
  | _ => none }
def fnIsHexAcceptsEncodingRow : OpenClaim := { program := "qxb6602658a", sum := "b8143b0367906b2896e4a5e30b52456c241901bea3b72d6dffad2050206fa196", func := "example.com/shelfmark/shelfmark/zzlaws_internal_store_b1.FnIsHexAcceptsEncoding", spec := "fnIsHexAcceptsEncoding", apart := false }
def FnIsHexAcceptsEncodingSaid : Prop := fnIsHexAcceptsEncodingRow.holds Try.pinned (OpenSpec.ofChange fnIsHexAcceptsEncodingSpec)

/-- ITS FALSE NEIGHBOUR: 'it returns false'. Refute it at one input. -/
def fnIsHexAcceptsEncodingWrong : ChangeSpec := { name := "fnIsHexAcceptsEncoding", fn := fun _ => fun
  | [d] => { results := [.lit (.bool false)], args := [d] }
  | _ => none }
def FnIsHexAcceptsEncodingWrongFalsely : Prop := fnIsHexAcceptsEncodingRow.holds Try.pinned (OpenSpec.ofChange fnIsHexAcceptsEncodingWrong)

/-- 'zzlaws_internal_store_b1.FnFindWhole': WHATEVER THE INPUT: true; the input reads as it did. -/
def fnFindWholeSpec : ChangeSpec := { name := "fnFindWhole", fn := fun _ => fun
  | [d1, d2] => { results := [.lit (.bool true)], args := [d1, d2] }
  | _ => none }
def fnFindWholeRow : OpenClaim := { program := "qxb6602658a", sum := "b8143b0367906b2896e4a5e30b52456c241901bea3b72d6dffad2050206fa196", func := "example.com/shelfmark/shelfmark/zzlaws_internal_store_b1.FnFindWhole", spec := "fnFindWhole", maps := true, apart := false }
def FnFindWholeSaid : Prop := fnFindWholeRow.holds Try.pinned (OpenSpec.ofChange fnFindWholeSpec)

/-- ITS FALSE NEIGHBOUR: 'it returns false'. Refute it at one input. -/
def fnFindWholeWrong : ChangeSpec := { name := "fnFindWhole", fn := fun _ => fun
  | [d1, d2] => { results := [.lit (.bool false)], args := [d1, d2] }
  | _ => none }
def FnFindWholeWrongFalsely : Prop := fnFindWholeRow.holds Try.pinned (OpenSpec.ofChange fnFindWholeWrong)

/-- 'zzlaws_internal_store_b1.FnFindSplit': WHATEVER THE INPUT: true; the input reads as it did. -/
def fnFindSplitSpec : ChangeSpec := { name := "fnFindSplit", fn := fun _ => fun
  | [d1, d2, d3] => { results := [.lit (.bool true)], args := [d1, d2, d3] }
  | _ => none }
def fnFindSplitRow : OpenClaim := { program := "qxb6602658a", sum := "b8143b0367906b2896e4a5e30b52456c241901bea3b72d6dffad2050206fa196", func := "example.com/shelfmark/shelfmark/zzlaws_internal_store_b1.FnFindSplit", spec := "fnFindSplit", maps := true, apart := false }
def FnFindSplitSaid : Prop := fnFindSplitRow.holds Try.pinned (OpenSpec.ofChange fnFindSplitSpec)

/-- ITS FALSE NEIGHBOUR: 'it returns false'. Refute it at one input. -/
def fnFindSplitWrong : ChangeSpec := { name := "fnFindSplit", fn := fun _ => fun
  | [d1, d2, d3] => { results := [.lit (.bool false)], args := [d1, d2, d3] }
  | _ => none }
def FnFindSplitWrongFalsely : Prop := fnFindSplitRow.holds Try.pinned (OpenSpec.ofChange fnFindSplitWrong)

end Rows
end Go.Proofs.Qxb6602658a
