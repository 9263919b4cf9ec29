/-
  No cell of these rows narrows 'for every input' (looked for: loops, veiled, ifaces, maps, wideKeys, modest, calm, conditions, laid).
  DERIVED. THE GIVEN ROWS OF THIS SEAT. 5 by the template 'for every input the law returns true; each argument reads behind the call as it read before'; 0 by the template 'total and deterministic' (their statements: YoecowTotals.lean).
  GIVEN WITH THE SEED: the statements are not yours to turn. If you find one false, say at which input.
  Laid BY PROGRAM, IN A SANDBOX (cutbox-rows.mjs): the forced cells as the released guide's own fill.sh prints them over the translation b73b7f837f539eeb… (all of the seat's roots in one cut). By AI agents, Wed Nov 11 2026. No macro, syntax, notation, axiom, sorry.
-/
import Derived.Test.YoecowChecked
import GoSem.Claim
import GoSem.ClaimJoined
import GoSem.ClaimMapViews
import Derived.JoinedTies
import Derived.KernelRfl
namespace Go.Proofs.Yoecow
/- THE CELL 'sum', in the pinned program and in every row, IS THE sha256 OF THE DUMP (.gsa) THAT YoecowProg.lean LOADS. Nothing in Lean hashes anything: it is a label: what it is worth is what the hold of that sum in a sandbox is worth. -/
noncomputable def Ecog.pinned : Pinned := { name := "yoecow", sum := "b73b7f837f539eeb0081d17cd605afa753aa3ffae1de6e4545d0cc43caff24da", checked := Ecog.checked }
namespace Rows
def none {H : Type} : Left H := { results := [], args := [] }

/-- 'zzlaws_root_b2.FnImmutableMapTypeNameDiffersFromCopy': WHATEVER THE INPUT: true; the input reads as it did. -/
def fnImmutableMapTypeNameDiffersFromCopySpec : ChangeSpec := { name := "fnImmutableMapTypeNameDiffersFromCopy", fn := fun _ => fun
  | [d1, d2] => { results := [.lit (.bool true)], args := [d1, d2] }
  | _ => none }
def fnImmutableMapTypeNameDiffersFromCopyRow : OpenClaim := { program := "yoecow", sum := "b73b7f837f539eeb0081d17cd605afa753aa3ffae1de6e4545d0cc43caff24da", func := "github.com/d5/tengo/v2/zzlaws_root_b2.FnImmutableMapTypeNameDiffersFromCopy", spec := "fnImmutableMapTypeNameDiffersFromCopy", unfollowed := true, recurses := true, apart := false }
def FnImmutableMapTypeNameDiffersFromCopySaid : Prop := fnImmutableMapTypeNameDiffersFromCopyRow.holds Ecog.pinned (OpenSpec.ofChange fnImmutableMapTypeNameDiffersFromCopySpec)

/-- ITS FALSE NEIGHBOUR: 'it returns false'. Refute it at one input. -/
def fnImmutableMapTypeNameDiffersFromCopyWrong : ChangeSpec := { name := "fnImmutableMapTypeNameDiffersFromCopy", fn := fun _ => fun
  | [d1, d2] => { results := [.lit (.bool false)], args := [d1, d2] }
  | _ => none }
def FnImmutableMapTypeNameDiffersFromCopyWrongFalsely : Prop := fnImmutableMapTypeNameDiffersFromCopyRow.holds Ecog.pinned (OpenSpec.ofChange fnImmutableMapTypeNameDiffersFromCopyWrong)

/-- 'zzlaws_root_b2.FnImmutableArrayIterateYieldsElementsInOrder': WHATEVER THE INPUT: true; the input reads as it did. -/
def fnImmutableArrayIterateYieldsElementsInOrderSpec : ChangeSpec := { name := "fnImmutableArrayIterateYieldsElementsInOrder", fn := fun _ => fun
  | [d] => { results := [.lit (.bool true)], args := [d] }
  | _ => none }
def fnImmutableArrayIterateYieldsElementsInOrderRow : OpenClaim := { program := "yoecow", sum := "b73b7f837f539eeb0081d17cd605afa753aa3ffae1de6e4545d0cc43caff24da", func := "github.com/d5/tengo/v2/zzlaws_root_b2.FnImmutableArrayIterateYieldsElementsInOrder", spec := "fnImmutableArrayIterateYieldsElementsInOrder", apart := false }
def FnImmutableArrayIterateYieldsElementsInOrderSaid : Prop := fnImmutableArrayIterateYieldsElementsInOrderRow.holds Ecog.pinned (OpenSpec.ofChange fnImmutableArrayIterateYieldsElementsInOrderSpec)

/-- ITS FALSE NEIGHBOUR: 'it returns false'. Refute it at one input. -/
def fnImmutableArrayIterateYieldsElementsInOrderWrong : ChangeSpec := { name := "fnImmutableArrayIterateYieldsElementsInOrder", fn := fun _ => fun
  | [d] => { results := [.lit (.bool false)], args := [d] }
  | _ => none }
def FnImmutableArrayIterateYieldsElementsInOrderWrongFalsely : Prop := fnImmutableArrayIterateYieldsElementsInOrderRow.holds Ecog.pinned (OpenSpec.ofChange fnImmutableArrayIterateYieldsElementsInOrderWrong)

/-- 'zzlaws_root_b2.FnImmutableArrayIteratorsAreIndependent': WHATEVER THE INPUT: true; the input reads as it did. -/
def fnImmutableArrayIteratorsAreIndependentSpec : ChangeSpec := { name := "fnImmutableArrayIteratorsAreIndependent", fn := fun _ => fun
  | [d1, d2] => { results := [.lit (.bool true)], args := [d1, d2] }
  | _ => none }
def fnImmutableArrayIteratorsAreIndependentRow : OpenClaim := { program := "yoecow", sum := "b73b7f837f539eeb0081d17cd605afa753aa3ffae1de6e4545d0cc43caff24da", func := "github.com/d5/tengo/v2/zzlaws_root_b2.FnImmutableArrayIteratorsAreIndependent", spec := "fnImmutableArrayIteratorsAreIndependent", apart := false }
def FnImmutableArrayIteratorsAreIndependentSaid : Prop := fnImmutableArrayIteratorsAreIndependentRow.holds Ecog.pinned (OpenSpec.ofChange fnImmutableArrayIteratorsAreIndependentSpec)

/-- ITS FALSE NEIGHBOUR: 'it returns false'. Refute it at one input. -/
def fnImmutableArrayIteratorsAreIndependentWrong : ChangeSpec := { name := "fnImmutableArrayIteratorsAreIndependent", fn := fun _ => fun
  | [d1, d2] => { results := [.lit (.bool false)], args := [d1, d2] }
  | _ => none }
def FnImmutableArrayIteratorsAreIndependentWrongFalsely : Prop := fnImmutableArrayIteratorsAreIndependentRow.holds Ecog.pinned (OpenSpec.ofChange fnImmutableArrayIteratorsAreIndependentWrong)

/-- 'zzlaws_root_b2.FnImmutableArrayCanIterateMatchesIteration': WHATEVER THE INPUT: true; the input reads as it did. -/
def fnImmutableArrayCanIterateMatchesIterationSpec : ChangeSpec := { name := "fnImmutableArrayCanIterateMatchesIteration", fn := fun _ => fun
  | [d] => { results := [.lit (.bool true)], args := [d] }
  | _ => none }
def fnImmutableArrayCanIterateMatchesIterationRow : OpenClaim := { program := "yoecow", sum := "b73b7f837f539eeb0081d17cd605afa753aa3ffae1de6e4545d0cc43caff24da", func := "github.com/d5/tengo/v2/zzlaws_root_b2.FnImmutableArrayCanIterateMatchesIteration", spec := "fnImmutableArrayCanIterateMatchesIteration", apart := false }
def FnImmutableArrayCanIterateMatchesIterationSaid : Prop := fnImmutableArrayCanIterateMatchesIterationRow.holds Ecog.pinned (OpenSpec.ofChange fnImmutableArrayCanIterateMatchesIterationSpec)

/-- ITS FALSE NEIGHBOUR: 'it returns false'. Refute it at one input. -/
def fnImmutableArrayCanIterateMatchesIterationWrong : ChangeSpec := { name := "fnImmutableArrayCanIterateMatchesIteration", fn := fun _ => fun
  | [d] => { results := [.lit (.bool false)], args := [d] }
  | _ => none }
def FnImmutableArrayCanIterateMatchesIterationWrongFalsely : Prop := fnImmutableArrayCanIterateMatchesIterationRow.holds Ecog.pinned (OpenSpec.ofChange fnImmutableArrayCanIterateMatchesIterationWrong)

/-- 'zzlaws_root_b2.FnImmutableArrayCopyIsIterableWithSameElements': WHATEVER THE INPUT: true; the input reads as it did. -/
def fnImmutableArrayCopyIsIterableWithSameElementsSpec : ChangeSpec := { name := "fnImmutableArrayCopyIsIterableWithSameElements", fn := fun _ => fun
  | [d] => { results := [.lit (.bool true)], args := [d] }
  | _ => none }
def fnImmutableArrayCopyIsIterableWithSameElementsRow : OpenClaim := { program := "yoecow", sum := "b73b7f837f539eeb0081d17cd605afa753aa3ffae1de6e4545d0cc43caff24da", func := "github.com/d5/tengo/v2/zzlaws_root_b2.FnImmutableArrayCopyIsIterableWithSameElements", spec := "fnImmutableArrayCopyIsIterableWithSameElements", unfollowed := true, recurses := true, apart := false }
def FnImmutableArrayCopyIsIterableWithSameElementsSaid : Prop := fnImmutableArrayCopyIsIterableWithSameElementsRow.holds Ecog.pinned (OpenSpec.ofChange fnImmutableArrayCopyIsIterableWithSameElementsSpec)

/-- ITS FALSE NEIGHBOUR: 'it returns false'. Refute it at one input. -/
def fnImmutableArrayCopyIsIterableWithSameElementsWrong : ChangeSpec := { name := "fnImmutableArrayCopyIsIterableWithSameElements", fn := fun _ => fun
  | [d] => { results := [.lit (.bool false)], args := [d] }
  | _ => none }
def FnImmutableArrayCopyIsIterableWithSameElementsWrongFalsely : Prop := fnImmutableArrayCopyIsIterableWithSameElementsRow.holds Ecog.pinned (OpenSpec.ofChange fnImmutableArrayCopyIsIterableWithSameElementsWrong)

end Rows
end Go.Proofs.Yoecow
