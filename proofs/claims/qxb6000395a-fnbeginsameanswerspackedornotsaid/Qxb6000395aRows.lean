/-
  No cell of these rows narrows 'for every input' (looked for: loops, veiled, ifaces, maps, wideKeys, modest, calm, conditions, laid).
  DERIVED. THE GIVEN ROWS OF THIS SEAT. 6 by the template 'for every input the law returns true; each argument reads behind the call as it read before'; 0 by the template 'total and deterministic' (their statements: Qxb6000395aTotals.lean).
  GIVEN WITH THE SEED: the statements are not yours to turn. If you find one false, say at which input.
  Laid BY PROGRAM, IN A SANDBOX (cutbox-rows.mjs): the forced cells as the released guide's own fill.sh prints them over the translation ce53e9bc0afbdb1b… (all of the seat's roots in one cut). By AI agents, Wed Nov 11 2026. No macro, syntax, notation, axiom, sorry.
-/
import Derived.Test.Qxb6000395aChecked
import GoSem.Claim
import GoSem.ClaimJoined
import GoSem.ClaimMapViews
import Derived.JoinedTies
import Derived.KernelRfl
namespace Go.Proofs.Qxb6000395a
/- THE CELL 'sum', in the pinned program and in every row, IS THE sha256 OF THE DUMP (.gsa) THAT Qxb6000395aProg.lean LOADS. Nothing in Lean hashes anything: it is a label: what it is worth is what the hold of that sum in a sandbox is worth. -/
noncomputable def Try.pinned : Pinned := { name := "qxb6000395a", sum := "ce53e9bc0afbdb1bbf26de43702bc38799b1397f535c323afe5e19a008474810", checked := Try.checked }
namespace Rows
def none {H : Type} : Left H := { results := [], args := [] }

/-- 'zzlaws_internal_format_b1.FnBeginFirstBeginningWins': WHATEVER THE INPUT: true; the input reads as it did. -/
def fnBeginFirstBeginningWinsSpec : ChangeSpec := { name := "fnBeginFirstBeginningWins", fn := fun _ => fun
  | [d1, d2, d3, d4] => { results := [.lit (.bool true)], args := [d1, d2, d3, d4] }
  | _ => none }
def fnBeginFirstBeginningWinsRow : OpenClaim := { program := "qxb6000395a", sum := "ce53e9bc0afbdb1bbf26de43702bc38799b1397f535c323afe5e19a008474810", func := "example.com/ledgerbridge/ledgerbridge/zzlaws_internal_format_b1.FnBeginFirstBeginningWins", spec := "fnBeginFirstBeginningWins", plainKeys := false, apart := false }
def FnBeginFirstBeginningWinsSaid : Prop := fnBeginFirstBeginningWinsRow.holds Try.pinned (OpenSpec.ofChange fnBeginFirstBeginningWinsSpec)

/-- ITS FALSE NEIGHBOUR: 'it returns false'. Refute it at one input. -/
def fnBeginFirstBeginningWinsWrong : ChangeSpec := { name := "fnBeginFirstBeginningWins", fn := fun _ => fun
  | [d1, d2, d3, d4] => { results := [.lit (.bool false)], args := [d1, d2, d3, d4] }
  | _ => none }
def FnBeginFirstBeginningWinsWrongFalsely : Prop := fnBeginFirstBeginningWinsRow.holds Try.pinned (OpenSpec.ofChange fnBeginFirstBeginningWinsWrong)

/-- 'zzlaws_internal_format_b1.FnBeginSameAnswersPackedOrNot': WHATEVER THE INPUT: true; the input reads as it did. -/
def fnBeginSameAnswersPackedOrNotSpec : ChangeSpec := { name := "fnBeginSameAnswersPackedOrNot", fn := fun _ => fun
  | [d1, d2, d3, d4] => { results := [.lit (.bool true)], args := [d1, d2, d3, d4] }
  | _ => none }
def fnBeginSameAnswersPackedOrNotRow : OpenClaim := { program := "qxb6000395a", sum := "ce53e9bc0afbdb1bbf26de43702bc38799b1397f535c323afe5e19a008474810", func := "example.com/ledgerbridge/ledgerbridge/zzlaws_internal_format_b1.FnBeginSameAnswersPackedOrNot", spec := "fnBeginSameAnswersPackedOrNot", plainKeys := false, apart := false }
def FnBeginSameAnswersPackedOrNotSaid : Prop := fnBeginSameAnswersPackedOrNotRow.holds Try.pinned (OpenSpec.ofChange fnBeginSameAnswersPackedOrNotSpec)

/-- ITS FALSE NEIGHBOUR: 'it returns false'. Refute it at one input. -/
def fnBeginSameAnswersPackedOrNotWrong : ChangeSpec := { name := "fnBeginSameAnswersPackedOrNot", fn := fun _ => fun
  | [d1, d2, d3, d4] => { results := [.lit (.bool false)], args := [d1, d2, d3, d4] }
  | _ => none }
def FnBeginSameAnswersPackedOrNotWrongFalsely : Prop := fnBeginSameAnswersPackedOrNotRow.holds Try.pinned (OpenSpec.ofChange fnBeginSameAnswersPackedOrNotWrong)

/-- 'zzlaws_internal_format_b1.FnPackRefusesExactlyAndSeparates': WHATEVER THE INPUT: true; the input reads as it did. -/
def fnPackRefusesExactlyAndSeparatesSpec : ChangeSpec := { name := "fnPackRefusesExactlyAndSeparates", fn := fun _ => fun
  | [d1, d2] => { results := [.lit (.bool true)], args := [d1, d2] }
  | _ => none }
def fnPackRefusesExactlyAndSeparatesRow : OpenClaim := { program := "qxb6000395a", sum := "ce53e9bc0afbdb1bbf26de43702bc38799b1397f535c323afe5e19a008474810", func := "example.com/ledgerbridge/ledgerbridge/zzlaws_internal_format_b1.FnPackRefusesExactlyAndSeparates", spec := "fnPackRefusesExactlyAndSeparates", plainKeys := false, apart := false }
def FnPackRefusesExactlyAndSeparatesSaid : Prop := fnPackRefusesExactlyAndSeparatesRow.holds Try.pinned (OpenSpec.ofChange fnPackRefusesExactlyAndSeparatesSpec)

/-- ITS FALSE NEIGHBOUR: 'it returns false'. Refute it at one input. -/
def fnPackRefusesExactlyAndSeparatesWrong : ChangeSpec := { name := "fnPackRefusesExactlyAndSeparates", fn := fun _ => fun
  | [d1, d2] => { results := [.lit (.bool false)], args := [d1, d2] }
  | _ => none }
def FnPackRefusesExactlyAndSeparatesWrongFalsely : Prop := fnPackRefusesExactlyAndSeparatesRow.holds Try.pinned (OpenSpec.ofChange fnPackRefusesExactlyAndSeparatesWrong)

/-- 'zzlaws_internal_format_b1.FnPackOrdersByJournalLengthDigits': WHATEVER THE INPUT: true; the input reads as it did. -/
def fnPackOrdersByJournalLengthDigitsSpec : ChangeSpec := { name := "fnPackOrdersByJournalLengthDigits", fn := fun _ => fun
  | [d1, d2, d3, d4] => { results := [.lit (.bool true)], args := [d1, d2, d3, d4] }
  | _ => none }
def fnPackOrdersByJournalLengthDigitsRow : OpenClaim := { program := "qxb6000395a", sum := "ce53e9bc0afbdb1bbf26de43702bc38799b1397f535c323afe5e19a008474810", func := "example.com/ledgerbridge/ledgerbridge/zzlaws_internal_format_b1.FnPackOrdersByJournalLengthDigits", spec := "fnPackOrdersByJournalLengthDigits", plainKeys := false, apart := false }
def FnPackOrdersByJournalLengthDigitsSaid : Prop := fnPackOrdersByJournalLengthDigitsRow.holds Try.pinned (OpenSpec.ofChange fnPackOrdersByJournalLengthDigitsSpec)

/-- ITS FALSE NEIGHBOUR: 'it returns false'. Refute it at one input. -/
def fnPackOrdersByJournalLengthDigitsWrong : ChangeSpec := { name := "fnPackOrdersByJournalLengthDigits", fn := fun _ => fun
  | [d1, d2, d3, d4] => { results := [.lit (.bool false)], args := [d1, d2, d3, d4] }
  | _ => none }
def FnPackOrdersByJournalLengthDigitsWrongFalsely : Prop := fnPackOrdersByJournalLengthDigitsRow.holds Try.pinned (OpenSpec.ofChange fnPackOrdersByJournalLengthDigitsWrong)

/-- 'zzlaws_internal_format_b1.FnCodeNumberIsFirstMetRank': WHATEVER THE INPUT: true; the input reads as it did. -/
def fnCodeNumberIsFirstMetRankSpec : ChangeSpec := { name := "fnCodeNumberIsFirstMetRank", fn := fun _ => fun
  | [d] => { results := [.lit (.bool true)], args := [d] }
  | _ => none }
def fnCodeNumberIsFirstMetRankRow : OpenClaim := { program := "qxb6000395a", sum := "ce53e9bc0afbdb1bbf26de43702bc38799b1397f535c323afe5e19a008474810", func := "example.com/ledgerbridge/ledgerbridge/zzlaws_internal_format_b1.FnCodeNumberIsFirstMetRank", spec := "fnCodeNumberIsFirstMetRank", plainKeys := false, apart := false }
def FnCodeNumberIsFirstMetRankSaid : Prop := fnCodeNumberIsFirstMetRankRow.holds Try.pinned (OpenSpec.ofChange fnCodeNumberIsFirstMetRankSpec)

/-- ITS FALSE NEIGHBOUR: 'it returns false'. Refute it at one input. -/
def fnCodeNumberIsFirstMetRankWrong : ChangeSpec := { name := "fnCodeNumberIsFirstMetRank", fn := fun _ => fun
  | [d] => { results := [.lit (.bool false)], args := [d] }
  | _ => none }
def FnCodeNumberIsFirstMetRankWrongFalsely : Prop := fnCodeNumberIsFirstMetRankRow.holds Try.pinned (OpenSpec.ofChange fnCodeNumberIsFirstMetRankWrong)

/-- 'zzlaws_internal_format_b1.FnCodeNumberRequeryStable': WHATEVER THE INPUT: true; the input reads as it did. -/
def fnCodeNumberRequeryStableSpec : ChangeSpec := { name := "fnCodeNumberRequeryStable", fn := fun _ => fun
  | [d] => { results := [.lit (.bool true)], args := [d] }
  | _ => none }
def fnCodeNumberRequeryStableRow : OpenClaim := { program := "qxb6000395a", sum := "ce53e9bc0afbdb1bbf26de43702bc38799b1397f535c323afe5e19a008474810", func := "example.com/ledgerbridge/ledgerbridge/zzlaws_internal_format_b1.FnCodeNumberRequeryStable", spec := "fnCodeNumberRequeryStable", plainKeys := false, apart := false }
def FnCodeNumberRequeryStableSaid : Prop := fnCodeNumberRequeryStableRow.holds Try.pinned (OpenSpec.ofChange fnCodeNumberRequeryStableSpec)

/-- ITS FALSE NEIGHBOUR: 'it returns false'. Refute it at one input. -/
def fnCodeNumberRequeryStableWrong : ChangeSpec := { name := "fnCodeNumberRequeryStable", fn := fun _ => fun
  | [d] => { results := [.lit (.bool false)], args := [d] }
  | _ => none }
def FnCodeNumberRequeryStableWrongFalsely : Prop := fnCodeNumberRequeryStableRow.holds Try.pinned (OpenSpec.ofChange fnCodeNumberRequeryStableWrong)

end Rows
end Go.Proofs.Qxb6000395a
