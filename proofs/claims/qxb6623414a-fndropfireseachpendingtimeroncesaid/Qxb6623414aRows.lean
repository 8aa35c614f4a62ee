/-
  No cell of these rows narrows 'for every input' (looked for: loops, veiled, ifaces, maps, wideKeys, modest, calm, conditions, laid).
  DERIVED. THE GIVEN ROWS OF THIS SEAT. 1 by the template 'for every input the law returns true; each argument reads behind the call as it read before'; 0 by the template 'total and deterministic' (their statements: Qxb6623414aTotals.lean).
  GIVEN WITH THE SEED: the statements are not yours to turn. If you find one false, say at which input.
  Laid BY PROGRAM, IN A SANDBOX (cutbox-rows.mjs): the forced cells as the released guide's own fill.sh prints them over the translation fd5c87a24105a028… (all of the seat's roots in one cut). By AI agents, Wed Nov 11 2026. No macro, syntax, notation, axiom, sorry.
-/
import Derived.Test.Qxb6623414aChecked
import GoSem.Claim
import GoSem.ClaimJoined
import GoSem.ClaimMapViews
import Derived.JoinedTies
import Derived.KernelRfl
namespace Go.Proofs.Qxb6623414a
/- THE CELL 'sum', in the pinned program and in every row, IS THE sha256 OF THE DUMP (.gsa) THAT Qxb6623414aProg.lean LOADS. Nothing in Lean hashes anything: it is a label: what it is worth is what the hold of that sum in a sandbox is worth. -/
noncomputable def Try.pinned : Pinned := { name := "qxb6623414a", sum := "fd5c87a24105a028a382ef22004ed3de289e3a6b6c6b35888b27b6051d10b162", checked := Try.checked }
namespace Rows
def none {H : Type} : Left H := { results := [], args := [] }

/-- 'zzlaws_worker_b1.FnDropFiresEachPendingTimerOnce': WHATEVER THE INPUT: true; the input reads as it did. -/
def fnDropFiresEachPendingTimerOnceSpec : ChangeSpec := { name := "fnDropFiresEachPendingTimerOnce", fn := fun _ => fun
  | [d1, d2, d3] => { results := [.lit (.bool true)], args := [d1, d2, d3] }
  | _ => none }
def fnDropFiresEachPendingTimerOnceRow : OpenClaim := { program := "qxb6623414a", sum := "fd5c87a24105a028a382ef22004ed3de289e3a6b6c6b35888b27b6051d10b162", func := "example.com/hermod/hermod/zzlaws_worker_b1.FnDropFiresEachPendingTimerOnce", spec := "fnDropFiresEachPendingTimerOnce", apart := false }
def FnDropFiresEachPendingTimerOnceSaid : Prop := fnDropFiresEachPendingTimerOnceRow.holds Try.pinned (OpenSpec.ofChange fnDropFiresEachPendingTimerOnceSpec)

/-- ITS FALSE NEIGHBOUR: 'it returns false'. Refute it at one input. -/
def fnDropFiresEachPendingTimerOnceWrong : ChangeSpec := { name := "fnDropFiresEachPendingTimerOnce", fn := fun _ => fun
  | [d1, d2, d3] => { results := [.lit (.bool false)], args := [d1, d2, d3] }
  | _ => none }
def FnDropFiresEachPendingTimerOnceWrongFalsely : Prop := fnDropFiresEachPendingTimerOnceRow.holds Try.pinned (OpenSpec.ofChange fnDropFiresEachPendingTimerOnceWrong)

end Rows
end Go.Proofs.Qxb6623414a
