/-
  No cell of these rows narrows 'for every input' (looked for: loops, veiled, ifaces, maps, wideKeys, modest, calm, conditions, laid).
  DERIVED. THE GIVEN ROWS OF THIS SEAT. 5 by the template 'for every input the law returns true; each argument reads behind the call as it read before'; 0 by the template 'total and deterministic' (their statements: Qxb6000988aTotals.lean).
  GIVEN WITH THE SEED: the statements are not yours to turn. If you find one false, say at which input.
  Laid BY PROGRAM, IN A SANDBOX (cutbox-rows.mjs): the forced cells as the released guide's own fill.sh prints them over the translation 636f0830ddbc0824… (all of the seat's roots in one cut). By AI agents, Wed Nov 11 2026. No macro, syntax, notation, axiom, sorry.
-/
import Derived.Test.Qxb6000988aChecked
import GoSem.Claim
import GoSem.ClaimJoined
import GoSem.ClaimMapViews
import Derived.JoinedTies
import Derived.KernelRfl
namespace Go.Proofs.Qxb6000988a
/- THE CELL 'sum', in the pinned program and in every row, IS THE sha256 OF THE DUMP (.gsa) THAT Qxb6000988aProg.lean LOADS. Nothing in Lean hashes anything: it is a label: what it is worth is what the hold of that sum in a sandbox is worth. -/
noncomputable def Try.pinned : Pinned := { name := "qxb6000988a", sum := "636f0830ddbc0824f379ce8603683d53c4e94c5f8e9425595112a1cb0a9afcfb", checked := Try.checked }
namespace Rows
def none {H : Type} : Left H := { results := [], args := [] }

/-- 'zzlaws_internal_pattern_b1.FnCombineMatchesProductOfSets': WHATEVER THE INPUT: true; the input reads as it did. -/
def fnCombineMatchesProductOfSetsSpec : ChangeSpec := { name := "fnCombineMatchesProductOfSets", fn := fun _ => fun
  | [d1, d2] => { results := [.lit (.bool true)], args := [d1, d2] }
  | _ => none }
def fnCombineMatchesProductOfSetsRow : OpenClaim := { program := "qxb6000988a", sum := "636f0830ddbc0824f379ce8603683d53c4e94c5f8e9425595112a1cb0a9afcfb", func := "example.com/crossroute/crossroute/zzlaws_internal_pattern_b1.FnCombineMatchesProductOfSets", spec := "fnCombineMatchesProductOfSets", apart := false }
def FnCombineMatchesProductOfSetsSaid : Prop := fnCombineMatchesProductOfSetsRow.holds Try.pinned (OpenSpec.ofChange fnCombineMatchesProductOfSetsSpec)

/-- ITS FALSE NEIGHBOUR: 'it returns false'. Refute it at one input. -/
def fnCombineMatchesProductOfSetsWrong : ChangeSpec := { name := "fnCombineMatchesProductOfSets", fn := fun _ => fun
  | [d1, d2] => { results := [.lit (.bool false)], args := [d1, d2] }
  | _ => none }
def FnCombineMatchesProductOfSetsWrongFalsely : Prop := fnCombineMatchesProductOfSetsRow.holds Try.pinned (OpenSpec.ofChange fnCombineMatchesProductOfSetsWrong)

/-- 'zzlaws_internal_pattern_b1.FnCombineAssociative': WHATEVER THE INPUT: true; the input reads as it did. -/
def fnCombineAssociativeSpec : ChangeSpec := { name := "fnCombineAssociative", fn := fun _ => fun
  | [d1, d2, d3] => { results := [.lit (.bool true)], args := [d1, d2, d3] }
  | _ => none }
def fnCombineAssociativeRow : OpenClaim := { program := "qxb6000988a", sum := "636f0830ddbc0824f379ce8603683d53c4e94c5f8e9425595112a1cb0a9afcfb", func := "example.com/crossroute/crossroute/zzlaws_internal_pattern_b1.FnCombineAssociative", spec := "fnCombineAssociative", apart := false }
def FnCombineAssociativeSaid : Prop := fnCombineAssociativeRow.holds Try.pinned (OpenSpec.ofChange fnCombineAssociativeSpec)

/-- ITS FALSE NEIGHBOUR: 'it returns false'. Refute it at one input. -/
def fnCombineAssociativeWrong : ChangeSpec := { name := "fnCombineAssociative", fn := fun _ => fun
  | [d1, d2, d3] => { results := [.lit (.bool false)], args := [d1, d2, d3] }
  | _ => none }
def FnCombineAssociativeWrongFalsely : Prop := fnCombineAssociativeRow.holds Try.pinned (OpenSpec.ofChange fnCombineAssociativeWrong)

/-- 'zzlaws_internal_pattern_b1.FnCombineCommutesWithInverse': WHATEVER THE INPUT: true; the input reads as it did. -/
def fnCombineCommutesWithInverseSpec : ChangeSpec := { name := "fnCombineCommutesWithInverse", fn := fun _ => fun
  | [d1, d2] => { results := [.lit (.bool true)], args := [d1, d2] }
  | _ => none }
def fnCombineCommutesWithInverseRow : OpenClaim := { program := "qxb6000988a", sum := "636f0830ddbc0824f379ce8603683d53c4e94c5f8e9425595112a1cb0a9afcfb", func := "example.com/crossroute/crossroute/zzlaws_internal_pattern_b1.FnCombineCommutesWithInverse", spec := "fnCombineCommutesWithInverse", apart := false }
def FnCombineCommutesWithInverseSaid : Prop := fnCombineCommutesWithInverseRow.holds Try.pinned (OpenSpec.ofChange fnCombineCommutesWithInverseSpec)

/-- ITS FALSE NEIGHBOUR: 'it returns false'. Refute it at one input. -/
def fnCombineCommutesWithInverseWrong : ChangeSpec := { name := "fnCombineCommutesWithInverse", fn := fun _ => fun
  | [d1, d2] => { results := [.lit (.bool false)], args := [d1, d2] }
  | _ => none }
def FnCombineCommutesWithInverseWrongFalsely : Prop := fnCombineCommutesWithInverseRow.holds Try.pinned (OpenSpec.ofChange fnCombineCommutesWithInverseWrong)

/-- 'zzlaws_internal_pattern_b1.FnIsNamePrefixClosed': WHATEVER THE INPUT: true; the input reads as it did. -/
def fnIsNamePrefixClosedSpec : ChangeSpec := { name := "fnIsNamePrefixClosed", fn := fun _ => fun
  | [d1, d2] => { results := [.lit (.bool true)], args := [d1, d2] }
  | _ => none }
def fnIsNamePrefixClosedRow : OpenClaim := { program := "qxb6000988a", sum := "636f0830ddbc0824f379ce8603683d53c4e94c5f8e9425595112a1cb0a9afcfb", func := "example.com/crossroute/crossroute/zzlaws_internal_pattern_b1.FnIsNamePrefixClosed", spec := "fnIsNamePrefixClosed", apart := false }
def FnIsNamePrefixClosedSaid : Prop := fnIsNamePrefixClosedRow.holds Try.pinned (OpenSpec.ofChange fnIsNamePrefixClosedSpec)

/-- ITS FALSE NEIGHBOUR: 'it returns false'. Refute it at one input. -/
def fnIsNamePrefixClosedWrong : ChangeSpec := { name := "fnIsNamePrefixClosed", fn := fun _ => fun
  | [d1, d2] => { results := [.lit (.bool false)], args := [d1, d2] }
  | _ => none }
def FnIsNamePrefixClosedWrongFalsely : Prop := fnIsNamePrefixClosedRow.holds Try.pinned (OpenSpec.ofChange fnIsNamePrefixClosedWrong)

/-- 'zzlaws_internal_pattern_b1.FnIsNameSplits': WHATEVER THE INPUT: true; the input reads as it did. -/
def fnIsNameSplitsSpec : ChangeSpec := { name := "fnIsNameSplits", fn := fun _ => fun
  | [d1, d2] => { results := [.lit (.bool true)], args := [d1, d2] }
  | _ => none }
def fnIsNameSplitsRow : OpenClaim := { program := "qxb6000988a", sum := "636f0830ddbc0824f379ce8603683d53c4e94c5f8e9425595112a1cb0a9afcfb", func := "example.com/crossroute/crossroute/zzlaws_internal_pattern_b1.FnIsNameSplits", spec := "fnIsNameSplits", apart := false }
def FnIsNameSplitsSaid : Prop := fnIsNameSplitsRow.holds Try.pinned (OpenSpec.ofChange fnIsNameSplitsSpec)

/-- ITS FALSE NEIGHBOUR: 'it returns false'. Refute it at one input. -/
def fnIsNameSplitsWrong : ChangeSpec := { name := "fnIsNameSplits", fn := fun _ => fun
  | [d1, d2] => { results := [.lit (.bool false)], args := [d1, d2] }
  | _ => none }
def FnIsNameSplitsWrongFalsely : Prop := fnIsNameSplitsRow.holds Try.pinned (OpenSpec.ofChange fnIsNameSplitsWrong)

end Rows
end Go.Proofs.Qxb6000988a
