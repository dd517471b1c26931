/-
  No cell of these rows narrows 'for every input' (looked for: loops, veiled, ifaces, maps, wideKeys, modest, calm, conditions, laid).
  DERIVED. THE GIVEN ROWS OF THIS SEAT. 1 by the template 'for every input the law returns true; each argument reads behind the call as it read before'; 0 by the template 'total and deterministic' (their statements: Qxb6609316aTotals.lean).
  GIVEN WITH THE SEED: the statements are not yours to turn. If you find one false, say at which input.
  Laid BY PROGRAM, IN A SANDBOX (cutbox-rows.mjs): the forced cells as the released guide's own fill.sh prints them over the translation 483582b06a09d060… (all of the seat's roots in one cut). By AI agents, Wed Nov 11 2026. No macro, syntax, notation, axiom, sorry.
-/
import Derived.Test.Qxb6609316aChecked
import GoSem.Claim
import GoSem.ClaimJoined
import GoSem.ClaimMapViews
import Derived.JoinedTies
import Derived.KernelRfl
namespace Go.Proofs.Qxb6609316a
/- THE CELL 'sum', in the pinned program and in every row, IS THE sha256 OF THE DUMP (.gsa) THAT Qxb6609316aProg.lean LOADS. Nothing in Lean hashes anything: it is a label: what it is worth is what the hold of that sum in a sandbox is worth. -/
noncomputable def Try.pinned : Pinned := { name := "qxb6609316a", sum := "483582b06a09d06048d339f63f2326cc949e7cc5c260a0af0186b863b54bfece", checked := Try.checked }
namespace Rows
def none {H : Type} : Left H := { results := [], args := [] }

/-- 'zzlaws_internal_state_b1.FnChangeSizeAddsKeyAndValueWhereverTheyStand': WHATEVER THE INPUT: true; the input reads as it did. -/
def fnChangeSizeAddsKeyAndValueWhereverTheyStandSpec : ChangeSpec := { name := "fnChangeSizeAddsKeyAndValueWhereverTheyStand", fn := fun _ => fun
  | [d1, d2, d3, d4] => { results := [.lit (.bool true)], args := [d1, d2, d3, d4] }
  | _ => none }
def fnChangeSizeAddsKeyAndValueWhereverTheyStandRow : OpenClaim := { program := "qxb6609316a", sum := "483582b06a09d06048d339f63f2326cc949e7cc5c260a0af0186b863b54bfece", func := "example.com/regentd/regentd/zzlaws_internal_state_b1.FnChangeSizeAddsKeyAndValueWhereverTheyStand", spec := "fnChangeSizeAddsKeyAndValueWhereverTheyStand", apart := false }
def FnChangeSizeAddsKeyAndValueWhereverTheyStandSaid : Prop := fnChangeSizeAddsKeyAndValueWhereverTheyStandRow.holds Try.pinned (OpenSpec.ofChange fnChangeSizeAddsKeyAndValueWhereverTheyStandSpec)

/-- ITS FALSE NEIGHBOUR: 'it returns false'. Refute it at one input. -/
def fnChangeSizeAddsKeyAndValueWhereverTheyStandWrong : ChangeSpec := { name := "fnChangeSizeAddsKeyAndValueWhereverTheyStand", fn := fun _ => fun
  | [d1, d2, d3, d4] => { results := [.lit (.bool false)], args := [d1, d2, d3, d4] }
  | _ => none }
def FnChangeSizeAddsKeyAndValueWhereverTheyStandWrongFalsely : Prop := fnChangeSizeAddsKeyAndValueWhereverTheyStandRow.holds Try.pinned (OpenSpec.ofChange fnChangeSizeAddsKeyAndValueWhereverTheyStandWrong)

end Rows
end Go.Proofs.Qxb6609316a
