/-
  No cell of these rows narrows 'for every input' (looked for: loops, veiled, ifaces, maps, wideKeys, modest, calm, conditions, laid).
  DERIVED. THE GIVEN ROWS OF THIS SEAT. 1 by the template 'for every input the law returns true; each argument reads behind the call as it read before'; 0 by the template 'total and deterministic' (their statements: Qxb6623498aTotals.lean).
  GIVEN WITH THE SEED: the statements are not yours to turn. If you find one false, say at which input.
  Laid BY PROGRAM, IN A SANDBOX (cutbox-rows.mjs): the forced cells as the released guide's own fill.sh prints them over the translation 7eb5987636c6c37f… (all of the seat's roots in one cut). By AI agents, Wed Nov 11 2026. No macro, syntax, notation, axiom, sorry.
-/
import Derived.Test.Qxb6623498aChecked
import GoSem.Claim
import GoSem.ClaimJoined
import GoSem.ClaimMapViews
import Derived.JoinedTies
import Derived.KernelRfl
namespace Go.Proofs.Qxb6623498a
/- THE CELL 'sum', in the pinned program and in every row, IS THE sha256 OF THE DUMP (.gsa) THAT Qxb6623498aProg.lean LOADS. Nothing in Lean hashes anything: it is a label: what it is worth is what the hold of that sum in a sandbox is worth. -/
noncomputable def Try.pinned : Pinned := { name := "qxb6623498a", sum := "7eb5987636c6c37f26a0c8dc59a5f1cc632d34a16b38b0422e6aaed11e30e026", checked := Try.checked }
namespace Rows
def none {H : Type} : Left H := { results := [], args := [] }

/-- 'zzlaws_pkg_chain_b1.FnTailInsertAt': WHATEVER THE INPUT: true; the input reads as it did. -/
def fnTailInsertAtSpec : ChangeSpec := { name := "fnTailInsertAt", fn := fun _ => fun
  | [d1, d2, d3] => { results := [.lit (.bool true)], args := [d1, d2, d3] }
  | _ => none }
def fnTailInsertAtRow : OpenClaim := { program := "qxb6623498a", sum := "7eb5987636c6c37f26a0c8dc59a5f1cc632d34a16b38b0422e6aaed11e30e026", func := "example.com/chainwright/chainwright/zzlaws_pkg_chain_b1.FnTailInsertAt", spec := "fnTailInsertAt", apart := false }
def FnTailInsertAtSaid : Prop := fnTailInsertAtRow.holds Try.pinned (OpenSpec.ofChange fnTailInsertAtSpec)

/-- ITS FALSE NEIGHBOUR: 'it returns false'. Refute it at one input. -/
def fnTailInsertAtWrong : ChangeSpec := { name := "fnTailInsertAt", fn := fun _ => fun
  | [d1, d2, d3] => { results := [.lit (.bool false)], args := [d1, d2, d3] }
  | _ => none }
def FnTailInsertAtWrongFalsely : Prop := fnTailInsertAtRow.holds Try.pinned (OpenSpec.ofChange fnTailInsertAtWrong)

end Rows
end Go.Proofs.Qxb6623498a
