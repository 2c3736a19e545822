/-
  No cell of these rows narrows 'for every input' (looked for: loops, veiled, ifaces, maps, wideKeys, modest, calm, conditions, laid).
  DERIVED. THE GIVEN ROWS OF THIS SEAT. 5 by the template 'for every input the law returns true; each argument reads behind the call as it read before'; 0 by the template 'total and deterministic' (their statements: Qxb6600298aTotals.lean).
  GIVEN WITH THE SEED: the statements are not yours to turn. If you find one false, say at which input.
  Laid BY PROGRAM, IN A SANDBOX (cutbox-rows.mjs): the forced cells as the released guide's own fill.sh prints them over the translation 0bfb8c4822f9ecfb… (all of the seat's roots in one cut). By AI agents, Wed Nov 11 2026. No macro, syntax, notation, axiom, sorry.
-/
import Derived.Test.Qxb6600298aChecked
import GoSem.Claim
import GoSem.ClaimJoined
import GoSem.ClaimMapViews
import Derived.JoinedTies
import Derived.KernelRfl
namespace Go.Proofs.Qxb6600298a
/- THE CELL 'sum', in the pinned program and in every row, IS THE sha256 OF THE DUMP (.gsa) THAT Qxb6600298aProg.lean LOADS. Nothing in Lean hashes anything: it is a label: what it is worth is what the hold of that sum in a sandbox is worth. -/
noncomputable def Try.pinned : Pinned := { name := "qxb6600298a", sum := "0bfb8c4822f9ecfb7fb68b88a4a658ae203269455b8524d70e8e5a2a61afd233", checked := Try.checked }
namespace Rows
def none {H : Type} : Left H := { results := [], args := [] }

/-- 'zzlaws_internal_yamlscan_b1.FnBreakLenIsTheLongestBreakAtI': WHATEVER THE INPUT: true; the input reads as it did. -/
def fnBreakLenIsTheLongestBreakAtISpec : ChangeSpec := { name := "fnBreakLenIsTheLongestBreakAtI", fn := fun _ => fun
  | [d1, d2] => { results := [.lit (.bool true)], args := [d1, d2] }
  | _ => none }
def fnBreakLenIsTheLongestBreakAtIRow : OpenClaim := { program := "qxb6600298a", sum := "0bfb8c4822f9ecfb7fb68b88a4a658ae203269455b8524d70e8e5a2a61afd233", func := "example.com/allotrope/allotrope/zzlaws_internal_yamlscan_b1.FnBreakLenIsTheLongestBreakAtI", spec := "fnBreakLenIsTheLongestBreakAtI", apart := false }
def FnBreakLenIsTheLongestBreakAtISaid : Prop := fnBreakLenIsTheLongestBreakAtIRow.holds Try.pinned (OpenSpec.ofChange fnBreakLenIsTheLongestBreakAtISpec)

/-- ITS FALSE NEIGHBOUR: 'it returns false'. Refute it at one input. -/
def fnBreakLenIsTheLongestBreakAtIWrong : ChangeSpec := { name := "fnBreakLenIsTheLongestBreakAtI", fn := fun _ => fun
  | [d1, d2] => { results := [.lit (.bool false)], args := [d1, d2] }
  | _ => none }
def FnBreakLenIsTheLongestBreakAtIWrongFalsely : Prop := fnBreakLenIsTheLongestBreakAtIRow.holds Try.pinned (OpenSpec.ofChange fnBreakLenIsTheLongestBreakAtIWrong)

/-- 'zzlaws_internal_yamlscan_b1.FnBreakLenReadsOnlyThreeBytesFromI': WHATEVER THE INPUT: true; the input reads as it did. -/
def fnBreakLenReadsOnlyThreeBytesFromISpec : ChangeSpec := { name := "fnBreakLenReadsOnlyThreeBytesFromI", fn := fun _ => fun
  | [d1, d2] => { results := [.lit (.bool true)], args := [d1, d2] }
  | _ => none }
def fnBreakLenReadsOnlyThreeBytesFromIRow : OpenClaim := { program := "qxb6600298a", sum := "0bfb8c4822f9ecfb7fb68b88a4a658ae203269455b8524d70e8e5a2a61afd233", func := "example.com/allotrope/allotrope/zzlaws_internal_yamlscan_b1.FnBreakLenReadsOnlyThreeBytesFromI", spec := "fnBreakLenReadsOnlyThreeBytesFromI", apart := false }
def FnBreakLenReadsOnlyThreeBytesFromISaid : Prop := fnBreakLenReadsOnlyThreeBytesFromIRow.holds Try.pinned (OpenSpec.ofChange fnBreakLenReadsOnlyThreeBytesFromISpec)

/-- ITS FALSE NEIGHBOUR: 'it returns false'. Refute it at one input. -/
def fnBreakLenReadsOnlyThreeBytesFromIWrong : ChangeSpec := { name := "fnBreakLenReadsOnlyThreeBytesFromI", fn := fun _ => fun
  | [d1, d2] => { results := [.lit (.bool false)], args := [d1, d2] }
  | _ => none }
def FnBreakLenReadsOnlyThreeBytesFromIWrongFalsely : Prop := fnBreakLenReadsOnlyThreeBytesFromIRow.holds Try.pinned (OpenSpec.ofChange fnBreakLenReadsOnlyThreeBytesFromIWrong)

/-- 'zzlaws_internal_yamlscan_b1.FnLinesAreTheMaximalBreakFreePieces': WHATEVER THE INPUT: true; the input reads as it did. -/
def fnLinesAreTheMaximalBreakFreePiecesSpec : ChangeSpec := { name := "fnLinesAreTheMaximalBreakFreePieces", fn := fun _ => fun
  | [d] => { results := [.lit (.bool true)], args := [d] }
  | _ => none }
def fnLinesAreTheMaximalBreakFreePiecesRow : OpenClaim := { program := "qxb6600298a", sum := "0bfb8c4822f9ecfb7fb68b88a4a658ae203269455b8524d70e8e5a2a61afd233", func := "example.com/allotrope/allotrope/zzlaws_internal_yamlscan_b1.FnLinesAreTheMaximalBreakFreePieces", spec := "fnLinesAreTheMaximalBreakFreePieces", apart := false }
def FnLinesAreTheMaximalBreakFreePiecesSaid : Prop := fnLinesAreTheMaximalBreakFreePiecesRow.holds Try.pinned (OpenSpec.ofChange fnLinesAreTheMaximalBreakFreePiecesSpec)

/-- ITS FALSE NEIGHBOUR: 'it returns false'. Refute it at one input. -/
def fnLinesAreTheMaximalBreakFreePiecesWrong : ChangeSpec := { name := "fnLinesAreTheMaximalBreakFreePieces", fn := fun _ => fun
  | [d] => { results := [.lit (.bool false)], args := [d] }
  | _ => none }
def FnLinesAreTheMaximalBreakFreePiecesWrongFalsely : Prop := fnLinesAreTheMaximalBreakFreePiecesRow.holds Try.pinned (OpenSpec.ofChange fnLinesAreTheMaximalBreakFreePiecesWrong)

/-- 'zzlaws_internal_yamlscan_b1.FnLinesRejoinedByLineFeedsSplitAlike': WHATEVER THE INPUT: true; the input reads as it did. -/
def fnLinesRejoinedByLineFeedsSplitAlikeSpec : ChangeSpec := { name := "fnLinesRejoinedByLineFeedsSplitAlike", fn := fun _ => fun
  | [d] => { results := [.lit (.bool true)], args := [d] }
  | _ => none }
def fnLinesRejoinedByLineFeedsSplitAlikeRow : OpenClaim := { program := "qxb6600298a", sum := "0bfb8c4822f9ecfb7fb68b88a4a658ae203269455b8524d70e8e5a2a61afd233", func := "example.com/allotrope/allotrope/zzlaws_internal_yamlscan_b1.FnLinesRejoinedByLineFeedsSplitAlike", spec := "fnLinesRejoinedByLineFeedsSplitAlike", apart := false }
def FnLinesRejoinedByLineFeedsSplitAlikeSaid : Prop := fnLinesRejoinedByLineFeedsSplitAlikeRow.holds Try.pinned (OpenSpec.ofChange fnLinesRejoinedByLineFeedsSplitAlikeSpec)

/-- ITS FALSE NEIGHBOUR: 'it returns false'. Refute it at one input. -/
def fnLinesRejoinedByLineFeedsSplitAlikeWrong : ChangeSpec := { name := "fnLinesRejoinedByLineFeedsSplitAlike", fn := fun _ => fun
  | [d] => { results := [.lit (.bool false)], args := [d] }
  | _ => none }
def FnLinesRejoinedByLineFeedsSplitAlikeWrongFalsely : Prop := fnLinesRejoinedByLineFeedsSplitAlikeRow.holds Try.pinned (OpenSpec.ofChange fnLinesRejoinedByLineFeedsSplitAlikeWrong)

/-- 'zzlaws_internal_yamlscan_b1.FnLinesOfAJoinAtALineFeedAreTheLinesOfEach': WHATEVER THE INPUT: true; the input reads as it did. -/
def fnLinesOfAJoinAtALineFeedAreTheLinesOfEachSpec : ChangeSpec := { name := "fnLinesOfAJoinAtALineFeedAreTheLinesOfEach", fn := fun _ => fun
  | [d1, d2] => { results := [.lit (.bool true)], args := [d1, d2] }
  | _ => none }
def fnLinesOfAJoinAtALineFeedAreTheLinesOfEachRow : OpenClaim := { program := "qxb6600298a", sum := "0bfb8c4822f9ecfb7fb68b88a4a658ae203269455b8524d70e8e5a2a61afd233", func := "example.com/allotrope/allotrope/zzlaws_internal_yamlscan_b1.FnLinesOfAJoinAtALineFeedAreTheLinesOfEach", spec := "fnLinesOfAJoinAtALineFeedAreTheLinesOfEach", apart := false }
def FnLinesOfAJoinAtALineFeedAreTheLinesOfEachSaid : Prop := fnLinesOfAJoinAtALineFeedAreTheLinesOfEachRow.holds Try.pinned (OpenSpec.ofChange fnLinesOfAJoinAtALineFeedAreTheLinesOfEachSpec)

/-- ITS FALSE NEIGHBOUR: 'it returns false'. Refute it at one input. -/
def fnLinesOfAJoinAtALineFeedAreTheLinesOfEachWrong : ChangeSpec := { name := "fnLinesOfAJoinAtALineFeedAreTheLinesOfEach", fn := fun _ => fun
  | [d1, d2] => { results := [.lit (.bool false)], args := [d1, d2] }
  | _ => none }
def FnLinesOfAJoinAtALineFeedAreTheLinesOfEachWrongFalsely : Prop := fnLinesOfAJoinAtALineFeedAreTheLinesOfEachRow.holds Try.pinned (OpenSpec.ofChange fnLinesOfAJoinAtALineFeedAreTheLinesOfEachWrong)

end Rows
end Go.Proofs.Qxb6600298a
