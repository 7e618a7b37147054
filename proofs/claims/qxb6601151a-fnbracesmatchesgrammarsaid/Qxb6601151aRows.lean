/-
  NARROWER THAN 'FOR EVERY INPUT', by the rows' own cells (each row's printed sentence says how): FnLengthIsBoundedAndRestoresVisiting: loops · FnLengthIgnoresOrderOfItems: loops · FnLengthSeesThroughGroups: loops.
  DERIVED. THE GIVEN ROWS OF THIS SEAT. 6 by the template 'for every input the law returns true; each argument reads behind the call as it read before'; 0 by the template 'total and deterministic' (their statements: Qxb6601151aTotals.lean).
  GIVEN WITH THE SEED: the statements are not yours to turn. If you find one false, say at which input.
  Laid BY PROGRAM, IN A SANDBOX (cutbox-rows.mjs): the forced cells as the released guide's own fill.sh prints them over the translation 203a8b8a3f77fb69… (all of the seat's roots in one cut). By AI agents, Wed Nov 11 2026. No macro, syntax, notation, axiom, sorry.
-/
import Derived.Test.Qxb6601151aChecked
import GoSem.Claim
import GoSem.ClaimJoined
import GoSem.ClaimMapViews
import Derived.JoinedTies
import Derived.KernelRfl
namespace Go.Proofs.Qxb6601151a
/- THE CELL 'sum', in the pinned program and in every row, IS THE sha256 OF THE DUMP (.gsa) THAT Qxb6601151aProg.lean LOADS. Nothing in Lean hashes anything: it is a label: what it is worth is what the hold of that sum in a sandbox is worth. -/
noncomputable def Try.pinned : Pinned := { name := "qxb6601151a", sum := "203a8b8a3f77fb69aff07b559f7eede42a2c9c0b3d57ec2ca6c5bcfa4c0bc767", checked := Try.checked }
namespace Rows
def none {H : Type} : Left H := { results := [], args := [] }

/-- 'zzlaws_internal_pcre_b1.FnBracesMatchesGrammar': WHATEVER THE INPUT: true; the input reads as it did. -/
def fnBracesMatchesGrammarSpec : ChangeSpec := { name := "fnBracesMatchesGrammar", fn := fun _ => fun
  | [d1, d2] => { results := [.lit (.bool true)], args := [d1, d2] }
  | _ => none }
def fnBracesMatchesGrammarRow : OpenClaim := { program := "qxb6601151a", sum := "203a8b8a3f77fb69aff07b559f7eede42a2c9c0b3d57ec2ca6c5bcfa4c0bc767", func := "example.com/lucid-directives/lucid-directives/zzlaws_internal_pcre_b1.FnBracesMatchesGrammar", spec := "fnBracesMatchesGrammar", unfollowed := true, recurses := true, apart := false }
def FnBracesMatchesGrammarSaid : Prop := fnBracesMatchesGrammarRow.holds Try.pinned (OpenSpec.ofChange fnBracesMatchesGrammarSpec)

/-- ITS FALSE NEIGHBOUR: 'it returns false'. Refute it at one input. -/
def fnBracesMatchesGrammarWrong : ChangeSpec := { name := "fnBracesMatchesGrammar", fn := fun _ => fun
  | [d1, d2] => { results := [.lit (.bool false)], args := [d1, d2] }
  | _ => none }
def FnBracesMatchesGrammarWrongFalsely : Prop := fnBracesMatchesGrammarRow.holds Try.pinned (OpenSpec.ofChange fnBracesMatchesGrammarWrong)

/-- 'zzlaws_internal_pcre_b1.FnBracesReadsBackWhatIsWritten': WHATEVER THE INPUT: true; the input reads as it did. -/
def fnBracesReadsBackWhatIsWrittenSpec : ChangeSpec := { name := "fnBracesReadsBackWhatIsWritten", fn := fun _ => fun
  | [d1, d2, d3, d4, d5, d6, d7, d8, d9, d10] => { results := [.lit (.bool true)], args := [d1, d2, d3, d4, d5, d6, d7, d8, d9, d10] }
  | _ => none }
def fnBracesReadsBackWhatIsWrittenRow : OpenClaim := { program := "qxb6601151a", sum := "203a8b8a3f77fb69aff07b559f7eede42a2c9c0b3d57ec2ca6c5bcfa4c0bc767", func := "example.com/lucid-directives/lucid-directives/zzlaws_internal_pcre_b1.FnBracesReadsBackWhatIsWritten", spec := "fnBracesReadsBackWhatIsWritten", unfollowed := true, recurses := true, apart := false }
def FnBracesReadsBackWhatIsWrittenSaid : Prop := fnBracesReadsBackWhatIsWrittenRow.holds Try.pinned (OpenSpec.ofChange fnBracesReadsBackWhatIsWrittenSpec)

/-- ITS FALSE NEIGHBOUR: 'it returns false'. Refute it at one input. -/
def fnBracesReadsBackWhatIsWrittenWrong : ChangeSpec := { name := "fnBracesReadsBackWhatIsWritten", fn := fun _ => fun
  | [d1, d2, d3, d4, d5, d6, d7, d8, d9, d10] => { results := [.lit (.bool false)], args := [d1, d2, d3, d4, d5, d6, d7, d8, d9, d10] }
  | _ => none }
def FnBracesReadsBackWhatIsWrittenWrongFalsely : Prop := fnBracesReadsBackWhatIsWrittenRow.holds Try.pinned (OpenSpec.ofChange fnBracesReadsBackWhatIsWrittenWrong)

/-- 'zzlaws_internal_pcre_b1.FnSingleRepeatPossessiveCostsOnlyTypeGroup': WHATEVER THE INPUT: true; the input reads as it did. -/
def fnSingleRepeatPossessiveCostsOnlyTypeGroupSpec : ChangeSpec := { name := "fnSingleRepeatPossessiveCostsOnlyTypeGroup", fn := fun _ => fun
  | [d1, d2, d3, d4, d5] => { results := [.lit (.bool true)], args := [d1, d2, d3, d4, d5] }
  | _ => none }
def fnSingleRepeatPossessiveCostsOnlyTypeGroupRow : OpenClaim := { program := "qxb6601151a", sum := "203a8b8a3f77fb69aff07b559f7eede42a2c9c0b3d57ec2ca6c5bcfa4c0bc767", func := "example.com/lucid-directives/lucid-directives/zzlaws_internal_pcre_b1.FnSingleRepeatPossessiveCostsOnlyTypeGroup", spec := "fnSingleRepeatPossessiveCostsOnlyTypeGroup", apart := false }
def FnSingleRepeatPossessiveCostsOnlyTypeGroupSaid : Prop := fnSingleRepeatPossessiveCostsOnlyTypeGroupRow.holds Try.pinned (OpenSpec.ofChange fnSingleRepeatPossessiveCostsOnlyTypeGroupSpec)

/-- ITS FALSE NEIGHBOUR: 'it returns false'. Refute it at one input. -/
def fnSingleRepeatPossessiveCostsOnlyTypeGroupWrong : ChangeSpec := { name := "fnSingleRepeatPossessiveCostsOnlyTypeGroup", fn := fun _ => fun
  | [d1, d2, d3, d4, d5] => { results := [.lit (.bool false)], args := [d1, d2, d3, d4, d5] }
  | _ => none }
def FnSingleRepeatPossessiveCostsOnlyTypeGroupWrongFalsely : Prop := fnSingleRepeatPossessiveCostsOnlyTypeGroupRow.holds Try.pinned (OpenSpec.ofChange fnSingleRepeatPossessiveCostsOnlyTypeGroupWrong)

/-- 'zzlaws_internal_pcre_b1.FnLengthIsBoundedAndRestoresVisiting': WHATEVER THE INPUT: true; the input reads as it did. -/
def fnLengthIsBoundedAndRestoresVisitingSpec : ChangeSpec := { name := "fnLengthIsBoundedAndRestoresVisiting", fn := fun _ => fun
  | [d1, d2, d3] => { results := [.lit (.bool true)], args := [d1, d2, d3] }
  | _ => none }
def fnLengthIsBoundedAndRestoresVisitingRow : OpenClaim := { program := "qxb6601151a", sum := "203a8b8a3f77fb69aff07b559f7eede42a2c9c0b3d57ec2ca6c5bcfa4c0bc767", func := "example.com/lucid-directives/lucid-directives/zzlaws_internal_pcre_b1.FnLengthIsBoundedAndRestoresVisiting", spec := "fnLengthIsBoundedAndRestoresVisiting", unfollowed := true, recurses := true, loops := true, apart := false }
def FnLengthIsBoundedAndRestoresVisitingSaid : Prop := fnLengthIsBoundedAndRestoresVisitingRow.holds Try.pinned (OpenSpec.ofChange fnLengthIsBoundedAndRestoresVisitingSpec)

/-- ITS FALSE NEIGHBOUR: 'it returns false'. Refute it at one input. -/
def fnLengthIsBoundedAndRestoresVisitingWrong : ChangeSpec := { name := "fnLengthIsBoundedAndRestoresVisiting", fn := fun _ => fun
  | [d1, d2, d3] => { results := [.lit (.bool false)], args := [d1, d2, d3] }
  | _ => none }
def FnLengthIsBoundedAndRestoresVisitingWrongFalsely : Prop := fnLengthIsBoundedAndRestoresVisitingRow.holds Try.pinned (OpenSpec.ofChange fnLengthIsBoundedAndRestoresVisitingWrong)

/-- 'zzlaws_internal_pcre_b1.FnLengthIgnoresOrderOfItems': WHATEVER THE INPUT: true; the input reads as it did. -/
def fnLengthIgnoresOrderOfItemsSpec : ChangeSpec := { name := "fnLengthIgnoresOrderOfItems", fn := fun _ => fun
  | [d1, d2] => { results := [.lit (.bool true)], args := [d1, d2] }
  | _ => none }
def fnLengthIgnoresOrderOfItemsRow : OpenClaim := { program := "qxb6601151a", sum := "203a8b8a3f77fb69aff07b559f7eede42a2c9c0b3d57ec2ca6c5bcfa4c0bc767", func := "example.com/lucid-directives/lucid-directives/zzlaws_internal_pcre_b1.FnLengthIgnoresOrderOfItems", spec := "fnLengthIgnoresOrderOfItems", unfollowed := true, recurses := true, loops := true, apart := false }
def FnLengthIgnoresOrderOfItemsSaid : Prop := fnLengthIgnoresOrderOfItemsRow.holds Try.pinned (OpenSpec.ofChange fnLengthIgnoresOrderOfItemsSpec)

/-- ITS FALSE NEIGHBOUR: 'it returns false'. Refute it at one input. -/
def fnLengthIgnoresOrderOfItemsWrong : ChangeSpec := { name := "fnLengthIgnoresOrderOfItems", fn := fun _ => fun
  | [d1, d2] => { results := [.lit (.bool false)], args := [d1, d2] }
  | _ => none }
def FnLengthIgnoresOrderOfItemsWrongFalsely : Prop := fnLengthIgnoresOrderOfItemsRow.holds Try.pinned (OpenSpec.ofChange fnLengthIgnoresOrderOfItemsWrong)

/-- 'zzlaws_internal_pcre_b1.FnLengthSeesThroughGroups': WHATEVER THE INPUT: true; the input reads as it did. -/
def fnLengthSeesThroughGroupsSpec : ChangeSpec := { name := "fnLengthSeesThroughGroups", fn := fun _ => fun
  | [d1, d2] => { results := [.lit (.bool true)], args := [d1, d2] }
  | _ => none }
def fnLengthSeesThroughGroupsRow : OpenClaim := { program := "qxb6601151a", sum := "203a8b8a3f77fb69aff07b559f7eede42a2c9c0b3d57ec2ca6c5bcfa4c0bc767", func := "example.com/lucid-directives/lucid-directives/zzlaws_internal_pcre_b1.FnLengthSeesThroughGroups", spec := "fnLengthSeesThroughGroups", unfollowed := true, recurses := true, loops := true, apart := false }
def FnLengthSeesThroughGroupsSaid : Prop := fnLengthSeesThroughGroupsRow.holds Try.pinned (OpenSpec.ofChange fnLengthSeesThroughGroupsSpec)

/-- ITS FALSE NEIGHBOUR: 'it returns false'. Refute it at one input. -/
def fnLengthSeesThroughGroupsWrong : ChangeSpec := { name := "fnLengthSeesThroughGroups", fn := fun _ => fun
  | [d1, d2] => { results := [.lit (.bool false)], args := [d1, d2] }
  | _ => none }
def FnLengthSeesThroughGroupsWrongFalsely : Prop := fnLengthSeesThroughGroupsRow.holds Try.pinned (OpenSpec.ofChange fnLengthSeesThroughGroupsWrong)

end Rows
end Go.Proofs.Qxb6601151a
