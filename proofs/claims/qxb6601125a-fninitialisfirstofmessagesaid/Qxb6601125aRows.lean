/-
  No cell of these rows narrows 'for every input' (looked for: loops, veiled, ifaces, maps, wideKeys, modest, calm, conditions, laid).
  DERIVED. THE GIVEN ROWS OF THIS SEAT. 5 by the template 'for every input the law returns true; each argument reads behind the call as it read before'; 0 by the template 'total and deterministic' (their statements: Qxb6601125aTotals.lean).
  GIVEN WITH THE SEED: the statements are not yours to turn. If you find one false, say at which input.
  Laid BY PROGRAM, IN A SANDBOX (cutbox-rows.mjs): the forced cells as the released guide's own fill.sh prints them over the translation e1cf32688377f8dc… (all of the seat's roots in one cut). By AI agents, Wed Nov 11 2026. No macro, syntax, notation, axiom, sorry.
-/
import Derived.Test.Qxb6601125aChecked
import GoSem.Claim
import GoSem.ClaimJoined
import GoSem.ClaimMapViews
import Derived.JoinedTies
import Derived.KernelRfl
namespace Go.Proofs.Qxb6601125a
/- THE CELL 'sum', in the pinned program and in every row, IS THE sha256 OF THE DUMP (.gsa) THAT Qxb6601125aProg.lean LOADS. Nothing in Lean hashes anything: it is a label: what it is worth is what the hold of that sum in a sandbox is worth. -/
noncomputable def Try.pinned : Pinned := { name := "qxb6601125a", sum := "e1cf32688377f8dc1c3879388edcd69f5c9012caff841cb76118d9fc404147b3", checked := Try.checked }
namespace Rows
def none {H : Type} : Left H := { results := [], args := [] }

/-- 'zzlaws_protocol_b1.FnMessageIsConcatenation': WHATEVER THE INPUT: true; the input reads as it did. -/
def fnMessageIsConcatenationSpec : ChangeSpec := { name := "fnMessageIsConcatenation", fn := fun _ => fun
  | [d1, d2] => { results := [.lit (.bool true)], args := [d1, d2] }
  | _ => none }
def fnMessageIsConcatenationRow : OpenClaim := { program := "qxb6601125a", sum := "e1cf32688377f8dc1c3879388edcd69f5c9012caff841cb76118d9fc404147b3", func := "example.com/gridwire/gridwire/zzlaws_protocol_b1.FnMessageIsConcatenation", spec := "fnMessageIsConcatenation", apart := false }
def FnMessageIsConcatenationSaid : Prop := fnMessageIsConcatenationRow.holds Try.pinned (OpenSpec.ofChange fnMessageIsConcatenationSpec)

/-- ITS FALSE NEIGHBOUR: 'it returns false'. Refute it at one input. -/
def fnMessageIsConcatenationWrong : ChangeSpec := { name := "fnMessageIsConcatenation", fn := fun _ => fun
  | [d1, d2] => { results := [.lit (.bool false)], args := [d1, d2] }
  | _ => none }
def FnMessageIsConcatenationWrongFalsely : Prop := fnMessageIsConcatenationRow.holds Try.pinned (OpenSpec.ofChange fnMessageIsConcatenationWrong)

/-- 'zzlaws_protocol_b1.FnMessageCopiesEveryBlockButALoneLast': WHATEVER THE INPUT: true; the input reads as it did. -/
def fnMessageCopiesEveryBlockButALoneLastSpec : ChangeSpec := { name := "fnMessageCopiesEveryBlockButALoneLast", fn := fun _ => fun
  | [d1, d2] => { results := [.lit (.bool true)], args := [d1, d2] }
  | _ => none }
def fnMessageCopiesEveryBlockButALoneLastRow : OpenClaim := { program := "qxb6601125a", sum := "e1cf32688377f8dc1c3879388edcd69f5c9012caff841cb76118d9fc404147b3", func := "example.com/gridwire/gridwire/zzlaws_protocol_b1.FnMessageCopiesEveryBlockButALoneLast", spec := "fnMessageCopiesEveryBlockButALoneLast", apart := false }
def FnMessageCopiesEveryBlockButALoneLastSaid : Prop := fnMessageCopiesEveryBlockButALoneLastRow.holds Try.pinned (OpenSpec.ofChange fnMessageCopiesEveryBlockButALoneLastSpec)

/-- ITS FALSE NEIGHBOUR: 'it returns false'. Refute it at one input. -/
def fnMessageCopiesEveryBlockButALoneLastWrong : ChangeSpec := { name := "fnMessageCopiesEveryBlockButALoneLast", fn := fun _ => fun
  | [d1, d2] => { results := [.lit (.bool false)], args := [d1, d2] }
  | _ => none }
def FnMessageCopiesEveryBlockButALoneLastWrongFalsely : Prop := fnMessageCopiesEveryBlockButALoneLastRow.holds Try.pinned (OpenSpec.ofChange fnMessageCopiesEveryBlockButALoneLastWrong)

/-- 'zzlaws_protocol_b1.FnInitialIsFirstOfMessage': WHATEVER THE INPUT: true; the input reads as it did. -/
def fnInitialIsFirstOfMessageSpec : ChangeSpec := { name := "fnInitialIsFirstOfMessage", fn := fun _ => fun
  | [d1, d2] => { results := [.lit (.bool true)], args := [d1, d2] }
  | _ => none }
def fnInitialIsFirstOfMessageRow : OpenClaim := { program := "qxb6601125a", sum := "e1cf32688377f8dc1c3879388edcd69f5c9012caff841cb76118d9fc404147b3", func := "example.com/gridwire/gridwire/zzlaws_protocol_b1.FnInitialIsFirstOfMessage", spec := "fnInitialIsFirstOfMessage", apart := false }
def FnInitialIsFirstOfMessageSaid : Prop := fnInitialIsFirstOfMessageRow.holds Try.pinned (OpenSpec.ofChange fnInitialIsFirstOfMessageSpec)

/-- ITS FALSE NEIGHBOUR: 'it returns false'. Refute it at one input. -/
def fnInitialIsFirstOfMessageWrong : ChangeSpec := { name := "fnInitialIsFirstOfMessage", fn := fun _ => fun
  | [d1, d2] => { results := [.lit (.bool false)], args := [d1, d2] }
  | _ => none }
def FnInitialIsFirstOfMessageWrongFalsely : Prop := fnInitialIsFirstOfMessageRow.holds Try.pinned (OpenSpec.ofChange fnInitialIsFirstOfMessageWrong)

/-- 'zzlaws_protocol_b1.FnInitialKeepsNoneOfTheOthers': WHATEVER THE INPUT: true; the input reads as it did. -/
def fnInitialKeepsNoneOfTheOthersSpec : ChangeSpec := { name := "fnInitialKeepsNoneOfTheOthers", fn := fun _ => fun
  | [d1, d2] => { results := [.lit (.bool true)], args := [d1, d2] }
  | _ => none }
def fnInitialKeepsNoneOfTheOthersRow : OpenClaim := { program := "qxb6601125a", sum := "e1cf32688377f8dc1c3879388edcd69f5c9012caff841cb76118d9fc404147b3", func := "example.com/gridwire/gridwire/zzlaws_protocol_b1.FnInitialKeepsNoneOfTheOthers", spec := "fnInitialKeepsNoneOfTheOthers", apart := false }
def FnInitialKeepsNoneOfTheOthersSaid : Prop := fnInitialKeepsNoneOfTheOthersRow.holds Try.pinned (OpenSpec.ofChange fnInitialKeepsNoneOfTheOthersSpec)

/-- ITS FALSE NEIGHBOUR: 'it returns false'. Refute it at one input. -/
def fnInitialKeepsNoneOfTheOthersWrong : ChangeSpec := { name := "fnInitialKeepsNoneOfTheOthers", fn := fun _ => fun
  | [d1, d2] => { results := [.lit (.bool false)], args := [d1, d2] }
  | _ => none }
def FnInitialKeepsNoneOfTheOthersWrongFalsely : Prop := fnInitialKeepsNoneOfTheOthersRow.holds Try.pinned (OpenSpec.ofChange fnInitialKeepsNoneOfTheOthersWrong)

/-- 'zzlaws_protocol_b1.FnLenCountsMessageFrames': WHATEVER THE INPUT: true; the input reads as it did. -/
def fnLenCountsMessageFramesSpec : ChangeSpec := { name := "fnLenCountsMessageFrames", fn := fun _ => fun
  | [d1, d2] => { results := [.lit (.bool true)], args := [d1, d2] }
  | _ => none }
def fnLenCountsMessageFramesRow : OpenClaim := { program := "qxb6601125a", sum := "e1cf32688377f8dc1c3879388edcd69f5c9012caff841cb76118d9fc404147b3", func := "example.com/gridwire/gridwire/zzlaws_protocol_b1.FnLenCountsMessageFrames", spec := "fnLenCountsMessageFrames", apart := false }
def FnLenCountsMessageFramesSaid : Prop := fnLenCountsMessageFramesRow.holds Try.pinned (OpenSpec.ofChange fnLenCountsMessageFramesSpec)

/-- ITS FALSE NEIGHBOUR: 'it returns false'. Refute it at one input. -/
def fnLenCountsMessageFramesWrong : ChangeSpec := { name := "fnLenCountsMessageFrames", fn := fun _ => fun
  | [d1, d2] => { results := [.lit (.bool false)], args := [d1, d2] }
  | _ => none }
def FnLenCountsMessageFramesWrongFalsely : Prop := fnLenCountsMessageFramesRow.holds Try.pinned (OpenSpec.ofChange fnLenCountsMessageFramesWrong)

end Rows
end Go.Proofs.Qxb6601125a
