/-
  No cell of these rows narrows 'for every input' (looked for: loops, veiled, ifaces, maps, wideKeys, modest, calm, conditions, laid).
  DERIVED. THE GIVEN ROWS OF THIS SEAT. 1 by the template 'for every input the law returns true; each argument reads behind the call as it read before'; 0 by the template 'total and deterministic' (their statements: Qxb6623455aTotals.lean).
  GIVEN WITH THE SEED: the statements are not yours to turn. If you find one false, say at which input.
  Laid BY PROGRAM, IN A SANDBOX (cutbox-rows.mjs): the forced cells as the released guide's own fill.sh prints them over the translation 0cc58d9641c00cd5… (all of the seat's roots in one cut). By AI agents, Wed Nov 11 2026. No macro, syntax, notation, axiom, sorry.
-/
import Derived.Test.Qxb6623455aChecked
import GoSem.Claim
import GoSem.ClaimJoined
import GoSem.ClaimMapViews
import Derived.JoinedTies
import Derived.KernelRfl
namespace Go.Proofs.Qxb6623455a
/- THE CELL 'sum', in the pinned program and in every row, IS THE sha256 OF THE DUMP (.gsa) THAT Qxb6623455aProg.lean LOADS. Nothing in Lean hashes anything: it is a label: what it is worth is what the hold of that sum in a sandbox is worth. -/
noncomputable def Try.pinned : Pinned := { name := "qxb6623455a", sum := "0cc58d9641c00cd59da38b8a035d571d6de369af17a74f043a861cf9efb45737", checked := Try.checked }
namespace Rows
def none {H : Type} : Left H := { results := [], args := [] }

/-- 'zzlaws_internal_http1_b1.FnOrDefaultChainPicksFirstPositive': WHATEVER THE INPUT: true; the input reads as it did. -/
def fnOrDefaultChainPicksFirstPositiveSpec : ChangeSpec := { name := "fnOrDefaultChainPicksFirstPositive", fn := fun _ => fun
  | [d1, d2] => { results := [.lit (.bool true)], args := [d1, d2] }
  | _ => none }
def fnOrDefaultChainPicksFirstPositiveRow : OpenClaim := { program := "qxb6623455a", sum := "0cc58d9641c00cd59da38b8a035d571d6de369af17a74f043a861cf9efb45737", func := "example.com/meterline/meterline/zzlaws_internal_http1_b1.FnOrDefaultChainPicksFirstPositive", spec := "fnOrDefaultChainPicksFirstPositive", apart := false }
def FnOrDefaultChainPicksFirstPositiveSaid : Prop := fnOrDefaultChainPicksFirstPositiveRow.holds Try.pinned (OpenSpec.ofChange fnOrDefaultChainPicksFirstPositiveSpec)

/-- ITS FALSE NEIGHBOUR: 'it returns false'. Refute it at one input. -/
def fnOrDefaultChainPicksFirstPositiveWrong : ChangeSpec := { name := "fnOrDefaultChainPicksFirstPositive", fn := fun _ => fun
  | [d1, d2] => { results := [.lit (.bool false)], args := [d1, d2] }
  | _ => none }
def FnOrDefaultChainPicksFirstPositiveWrongFalsely : Prop := fnOrDefaultChainPicksFirstPositiveRow.holds Try.pinned (OpenSpec.ofChange fnOrDefaultChainPicksFirstPositiveWrong)

end Rows
end Go.Proofs.Qxb6623455a
