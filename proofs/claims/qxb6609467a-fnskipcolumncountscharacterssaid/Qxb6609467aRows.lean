/-
  No cell of these rows narrows 'for every input' (looked for: loops, veiled, ifaces, maps, wideKeys, modest, calm, conditions, laid).
  DERIVED. THE GIVEN ROWS OF THIS SEAT. 3 by the template 'for every input the law returns true; each argument reads behind the call as it read before'; 0 by the template 'total and deterministic' (their statements: Qxb6609467aTotals.lean).
  GIVEN WITH THE SEED: the statements are not yours to turn. If you find one false, say at which input.
  Laid BY PROGRAM, IN A SANDBOX (cutbox-rows.mjs): the forced cells as the released guide's own fill.sh prints them over the translation b42c416af28f9788… (all of the seat's roots in one cut). By AI agents, Wed Nov 11 2026. No macro, syntax, notation, axiom, sorry.
-/
import Derived.Test.Qxb6609467aChecked
import GoSem.Claim
import GoSem.ClaimJoined
import GoSem.ClaimMapViews
import Derived.JoinedTies
import Derived.KernelRfl
namespace Go.Proofs.Qxb6609467a
/- THE CELL 'sum', in the pinned program and in every row, IS THE sha256 OF THE DUMP (.gsa) THAT Qxb6609467aProg.lean LOADS. Nothing in Lean hashes anything: it is a label: what it is worth is what the hold of that sum in a sandbox is worth. -/
noncomputable def Try.pinned : Pinned := { name := "qxb6609467a", sum := "b42c416af28f9788fd42779c4e1dfb03a1ff144b312548a4fac9193e2f08b07e", checked := Try.checked }
namespace Rows
def none {H : Type} : Left H := { results := [], args := [] }

/-- 'zzlaws_root_b1.FnEmptyScalarKeepsPositionsApart': WHATEVER THE INPUT: true; the input reads as it did. -/
def fnEmptyScalarKeepsPositionsApartSpec : ChangeSpec := { name := "fnEmptyScalarKeepsPositionsApart", fn := fun _ => fun
  | [d1, d2, d3, d4] => { results := [.lit (.bool true)], args := [d1, d2, d3, d4] }
  | _ => none }
def fnEmptyScalarKeepsPositionsApartRow : OpenClaim := { program := "qxb6609467a", sum := "b42c416af28f9788fd42779c4e1dfb03a1ff144b312548a4fac9193e2f08b07e", func := "example.com/hoopoe/hoopoe/zzlaws_root_b1.FnEmptyScalarKeepsPositionsApart", spec := "fnEmptyScalarKeepsPositionsApart", apart := false }
def FnEmptyScalarKeepsPositionsApartSaid : Prop := fnEmptyScalarKeepsPositionsApartRow.holds Try.pinned (OpenSpec.ofChange fnEmptyScalarKeepsPositionsApartSpec)

/-- ITS FALSE NEIGHBOUR: 'it returns false'. Refute it at one input. -/
def fnEmptyScalarKeepsPositionsApartWrong : ChangeSpec := { name := "fnEmptyScalarKeepsPositionsApart", fn := fun _ => fun
  | [d1, d2, d3, d4] => { results := [.lit (.bool false)], args := [d1, d2, d3, d4] }
  | _ => none }
def FnEmptyScalarKeepsPositionsApartWrongFalsely : Prop := fnEmptyScalarKeepsPositionsApartRow.holds Try.pinned (OpenSpec.ofChange fnEmptyScalarKeepsPositionsApartWrong)

/-- 'zzlaws_root_b1.FnSkipColumnCountsCharacters': WHATEVER THE INPUT: true; the input reads as it did. -/
def fnSkipColumnCountsCharactersSpec : ChangeSpec := { name := "fnSkipColumnCountsCharacters", fn := fun _ => fun
  | [d1, d2, d3, d4, d5] => { results := [.lit (.bool true)], args := [d1, d2, d3, d4, d5] }
  | _ => none }
def fnSkipColumnCountsCharactersRow : OpenClaim := { program := "qxb6609467a", sum := "b42c416af28f9788fd42779c4e1dfb03a1ff144b312548a4fac9193e2f08b07e", func := "example.com/hoopoe/hoopoe/zzlaws_root_b1.FnSkipColumnCountsCharacters", spec := "fnSkipColumnCountsCharacters", apart := false }
def FnSkipColumnCountsCharactersSaid : Prop := fnSkipColumnCountsCharactersRow.holds Try.pinned (OpenSpec.ofChange fnSkipColumnCountsCharactersSpec)

/-- ITS FALSE NEIGHBOUR: 'it returns false'. Refute it at one input. -/
def fnSkipColumnCountsCharactersWrong : ChangeSpec := { name := "fnSkipColumnCountsCharacters", fn := fun _ => fun
  | [d1, d2, d3, d4, d5] => { results := [.lit (.bool false)], args := [d1, d2, d3, d4, d5] }
  | _ => none }
def FnSkipColumnCountsCharactersWrongFalsely : Prop := fnSkipColumnCountsCharactersRow.holds Try.pinned (OpenSpec.ofChange fnSkipColumnCountsCharactersWrong)

/-- 'zzlaws_root_b1.FnSkipLeavesTheRestInOrder': WHATEVER THE INPUT: true; the input reads as it did. -/
def fnSkipLeavesTheRestInOrderSpec : ChangeSpec := { name := "fnSkipLeavesTheRestInOrder", fn := fun _ => fun
  | [d1, d2, d3, d4] => { results := [.lit (.bool true)], args := [d1, d2, d3, d4] }
  | _ => none }
def fnSkipLeavesTheRestInOrderRow : OpenClaim := { program := "qxb6609467a", sum := "b42c416af28f9788fd42779c4e1dfb03a1ff144b312548a4fac9193e2f08b07e", func := "example.com/hoopoe/hoopoe/zzlaws_root_b1.FnSkipLeavesTheRestInOrder", spec := "fnSkipLeavesTheRestInOrder", apart := false }
def FnSkipLeavesTheRestInOrderSaid : Prop := fnSkipLeavesTheRestInOrderRow.holds Try.pinned (OpenSpec.ofChange fnSkipLeavesTheRestInOrderSpec)

/-- ITS FALSE NEIGHBOUR: 'it returns false'. Refute it at one input. -/
def fnSkipLeavesTheRestInOrderWrong : ChangeSpec := { name := "fnSkipLeavesTheRestInOrder", fn := fun _ => fun
  | [d1, d2, d3, d4] => { results := [.lit (.bool false)], args := [d1, d2, d3, d4] }
  | _ => none }
def FnSkipLeavesTheRestInOrderWrongFalsely : Prop := fnSkipLeavesTheRestInOrderRow.holds Try.pinned (OpenSpec.ofChange fnSkipLeavesTheRestInOrderWrong)

end Rows
end Go.Proofs.Qxb6609467a
