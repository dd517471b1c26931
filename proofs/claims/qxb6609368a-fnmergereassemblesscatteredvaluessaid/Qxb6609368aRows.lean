/-
  No cell of these rows narrows 'for every input' (looked for: loops, veiled, ifaces, maps, wideKeys, modest, calm, conditions, laid).
  DERIVED. THE GIVEN ROWS OF THIS SEAT. 5 by the template 'for every input the law returns true; each argument reads behind the call as it read before'; 0 by the template 'total and deterministic' (their statements: Qxb6609368aTotals.lean).
  GIVEN WITH THE SEED: the statements are not yours to turn. If you find one false, say at which input.
  Laid BY PROGRAM, IN A SANDBOX (cutbox-rows.mjs): the forced cells as the released guide's own fill.sh prints them over the translation 79b0b14618b7d3c1… (all of the seat's roots in one cut). By AI agents, Wed Nov 11 2026. No macro, syntax, notation, axiom, sorry.
-/
import Derived.Test.Qxb6609368aChecked
import GoSem.Claim
import GoSem.ClaimJoined
import GoSem.ClaimMapViews
import Derived.JoinedTies
import Derived.KernelRfl
namespace Go.Proofs.Qxb6609368a
/- THE CELL 'sum', in the pinned program and in every row, IS THE sha256 OF THE DUMP (.gsa) THAT Qxb6609368aProg.lean LOADS. Nothing in Lean hashes anything: it is a label: what it is worth is what the hold of that sum in a sandbox is worth. -/
noncomputable def Try.pinned : Pinned := { name := "qxb6609368a", sum := "79b0b14618b7d3c1beccd286c9801613068bd05fd26a4a67bb6107b4c4ddd400", checked := Try.checked }
namespace Rows
def none {H : Type} : Left H := { results := [], args := [] }

/-- 'zzlaws_internal_store_b1.FnMergeReassemblesScatteredValues': WHATEVER THE INPUT: true; the input reads as it did. -/
def fnMergeReassemblesScatteredValuesSpec : ChangeSpec := { name := "fnMergeReassemblesScatteredValues", fn := fun _ => fun
  | [d1, d2, d3] => { results := [.lit (.bool true)], args := [d1, d2, d3] }
  | _ => none }
def fnMergeReassemblesScatteredValuesRow : OpenClaim := { program := "qxb6609368a", sum := "79b0b14618b7d3c1beccd286c9801613068bd05fd26a4a67bb6107b4c4ddd400", func := "example.com/seriatim/seriatim/zzlaws_internal_store_b1.FnMergeReassemblesScatteredValues", spec := "fnMergeReassemblesScatteredValues", apart := false }
def FnMergeReassemblesScatteredValuesSaid : Prop := fnMergeReassemblesScatteredValuesRow.holds Try.pinned (OpenSpec.ofChange fnMergeReassemblesScatteredValuesSpec)

/-- ITS FALSE NEIGHBOUR: 'it returns false'. Refute it at one input. -/
def fnMergeReassemblesScatteredValuesWrong : ChangeSpec := { name := "fnMergeReassemblesScatteredValues", fn := fun _ => fun
  | [d1, d2, d3] => { results := [.lit (.bool false)], args := [d1, d2, d3] }
  | _ => none }
def FnMergeReassemblesScatteredValuesWrongFalsely : Prop := fnMergeReassemblesScatteredValuesRow.holds Try.pinned (OpenSpec.ofChange fnMergeReassemblesScatteredValuesWrong)

/-- 'zzlaws_internal_store_b1.FnExpiredMatchesMillisecondClosedForm': WHATEVER THE INPUT: true; the input reads as it did. -/
def fnExpiredMatchesMillisecondClosedFormSpec : ChangeSpec := { name := "fnExpiredMatchesMillisecondClosedForm", fn := fun _ => fun
  | [d1, d2, d3] => { results := [.lit (.bool true)], args := [d1, d2, d3] }
  | _ => none }
def fnExpiredMatchesMillisecondClosedFormRow : OpenClaim := { program := "qxb6609368a", sum := "79b0b14618b7d3c1beccd286c9801613068bd05fd26a4a67bb6107b4c4ddd400", func := "example.com/seriatim/seriatim/zzlaws_internal_store_b1.FnExpiredMatchesMillisecondClosedForm", spec := "fnExpiredMatchesMillisecondClosedForm", apart := false }
def FnExpiredMatchesMillisecondClosedFormSaid : Prop := fnExpiredMatchesMillisecondClosedFormRow.holds Try.pinned (OpenSpec.ofChange fnExpiredMatchesMillisecondClosedFormSpec)

/-- ITS FALSE NEIGHBOUR: 'it returns false'. Refute it at one input. -/
def fnExpiredMatchesMillisecondClosedFormWrong : ChangeSpec := { name := "fnExpiredMatchesMillisecondClosedForm", fn := fun _ => fun
  | [d1, d2, d3] => { results := [.lit (.bool false)], args := [d1, d2, d3] }
  | _ => none }
def FnExpiredMatchesMillisecondClosedFormWrongFalsely : Prop := fnExpiredMatchesMillisecondClosedFormRow.holds Try.pinned (OpenSpec.ofChange fnExpiredMatchesMillisecondClosedFormWrong)

/-- 'zzlaws_internal_store_b1.FnExpiredTurnsOnceAtItsDeadline': WHATEVER THE INPUT: true; the input reads as it did. -/
def fnExpiredTurnsOnceAtItsDeadlineSpec : ChangeSpec := { name := "fnExpiredTurnsOnceAtItsDeadline", fn := fun _ => fun
  | [d1, d2, d3, d4] => { results := [.lit (.bool true)], args := [d1, d2, d3, d4] }
  | _ => none }
def fnExpiredTurnsOnceAtItsDeadlineRow : OpenClaim := { program := "qxb6609368a", sum := "79b0b14618b7d3c1beccd286c9801613068bd05fd26a4a67bb6107b4c4ddd400", func := "example.com/seriatim/seriatim/zzlaws_internal_store_b1.FnExpiredTurnsOnceAtItsDeadline", spec := "fnExpiredTurnsOnceAtItsDeadline", apart := false }
def FnExpiredTurnsOnceAtItsDeadlineSaid : Prop := fnExpiredTurnsOnceAtItsDeadlineRow.holds Try.pinned (OpenSpec.ofChange fnExpiredTurnsOnceAtItsDeadlineSpec)

/-- ITS FALSE NEIGHBOUR: 'it returns false'. Refute it at one input. -/
def fnExpiredTurnsOnceAtItsDeadlineWrong : ChangeSpec := { name := "fnExpiredTurnsOnceAtItsDeadline", fn := fun _ => fun
  | [d1, d2, d3, d4] => { results := [.lit (.bool false)], args := [d1, d2, d3, d4] }
  | _ => none }
def FnExpiredTurnsOnceAtItsDeadlineWrongFalsely : Prop := fnExpiredTurnsOnceAtItsDeadlineRow.holds Try.pinned (OpenSpec.ofChange fnExpiredTurnsOnceAtItsDeadlineWrong)

/-- 'zzlaws_internal_store_b1.FnNoticeReadsBackExactly': WHATEVER THE INPUT: true; the input reads as it did. -/
def fnNoticeReadsBackExactlySpec : ChangeSpec := { name := "fnNoticeReadsBackExactly", fn := fun _ => fun
  | [d1, d2, d3] => { results := [.lit (.bool true)], args := [d1, d2, d3] }
  | _ => none }
def fnNoticeReadsBackExactlyRow : OpenClaim := { program := "qxb6609368a", sum := "79b0b14618b7d3c1beccd286c9801613068bd05fd26a4a67bb6107b4c4ddd400", func := "example.com/seriatim/seriatim/zzlaws_internal_store_b1.FnNoticeReadsBackExactly", spec := "fnNoticeReadsBackExactly", named := ["encoding/binary.BigEndian"], apart := false }
def FnNoticeReadsBackExactlySaid : Prop := fnNoticeReadsBackExactlyRow.holds Try.pinned (OpenSpec.ofChange fnNoticeReadsBackExactlySpec)

/-- ITS FALSE NEIGHBOUR: 'it returns false'. Refute it at one input. -/
def fnNoticeReadsBackExactlyWrong : ChangeSpec := { name := "fnNoticeReadsBackExactly", fn := fun _ => fun
  | [d1, d2, d3] => { results := [.lit (.bool false)], args := [d1, d2, d3] }
  | _ => none }
def FnNoticeReadsBackExactlyWrongFalsely : Prop := fnNoticeReadsBackExactlyRow.holds Try.pinned (OpenSpec.ofChange fnNoticeReadsBackExactlyWrong)

/-- 'zzlaws_internal_store_b1.FnNoticeIsInjectiveAndBeginsWithItsHeader': WHATEVER THE INPUT: true; the input reads as it did. -/
def fnNoticeIsInjectiveAndBeginsWithItsHeaderSpec : ChangeSpec := { name := "fnNoticeIsInjectiveAndBeginsWithItsHeader", fn := fun _ => fun
  | [d1, d2, d3, d4, d5] => { results := [.lit (.bool true)], args := [d1, d2, d3, d4, d5] }
  | _ => none }
def fnNoticeIsInjectiveAndBeginsWithItsHeaderRow : OpenClaim := { program := "qxb6609368a", sum := "79b0b14618b7d3c1beccd286c9801613068bd05fd26a4a67bb6107b4c4ddd400", func := "example.com/seriatim/seriatim/zzlaws_internal_store_b1.FnNoticeIsInjectiveAndBeginsWithItsHeader", spec := "fnNoticeIsInjectiveAndBeginsWithItsHeader", named := ["encoding/binary.BigEndian"], apart := false }
def FnNoticeIsInjectiveAndBeginsWithItsHeaderSaid : Prop := fnNoticeIsInjectiveAndBeginsWithItsHeaderRow.holds Try.pinned (OpenSpec.ofChange fnNoticeIsInjectiveAndBeginsWithItsHeaderSpec)

/-- ITS FALSE NEIGHBOUR: 'it returns false'. Refute it at one input. -/
def fnNoticeIsInjectiveAndBeginsWithItsHeaderWrong : ChangeSpec := { name := "fnNoticeIsInjectiveAndBeginsWithItsHeader", fn := fun _ => fun
  | [d1, d2, d3, d4, d5] => { results := [.lit (.bool false)], args := [d1, d2, d3, d4, d5] }
  | _ => none }
def FnNoticeIsInjectiveAndBeginsWithItsHeaderWrongFalsely : Prop := fnNoticeIsInjectiveAndBeginsWithItsHeaderRow.holds Try.pinned (OpenSpec.ofChange fnNoticeIsInjectiveAndBeginsWithItsHeaderWrong)

end Rows
end Go.Proofs.Qxb6609368a
