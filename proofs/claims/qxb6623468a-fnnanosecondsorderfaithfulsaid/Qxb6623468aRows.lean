/-
  No cell of these rows narrows 'for every input' (looked for: loops, veiled, ifaces, maps, wideKeys, modest, calm, conditions, laid).
  DERIVED. THE GIVEN ROWS OF THIS SEAT. 2 by the template 'for every input the law returns true; each argument reads behind the call as it read before'; 0 by the template 'total and deterministic' (their statements: Qxb6623468aTotals.lean).
  GIVEN WITH THE SEED: the statements are not yours to turn. If you find one false, say at which input.
  Laid BY PROGRAM, IN A SANDBOX (cutbox-rows.mjs): the forced cells as the released guide's own fill.sh prints them over the translation 847e3e9fc1d86baf… (all of the seat's roots in one cut). By AI agents, Wed Nov 11 2026. No macro, syntax, notation, axiom, sorry.
-/
import Derived.Test.Qxb6623468aChecked
import GoSem.Claim
import GoSem.ClaimJoined
import GoSem.ClaimMapViews
import Derived.JoinedTies
import Derived.KernelRfl
namespace Go.Proofs.Qxb6623468a
/- THE CELL 'sum', in the pinned program and in every row, IS THE sha256 OF THE DUMP (.gsa) THAT Qxb6623468aProg.lean LOADS. Nothing in Lean hashes anything: it is a label: what it is worth is what the hold of that sum in a sandbox is worth. -/
noncomputable def Try.pinned : Pinned := { name := "qxb6623468a", sum := "847e3e9fc1d86bafded3697de37d76f3e58050d754dea533bfed5ee51aae2f1d", checked := Try.checked }
namespace Rows
def none {H : Type} : Left H := { results := [], args := [] }

/-- 'zzlaws_root_b1.FnNanosecondsAdditiveAtAnyCut': WHATEVER THE INPUT: true; the input reads as it did. -/
def fnNanosecondsAdditiveAtAnyCutSpec : ChangeSpec := { name := "fnNanosecondsAdditiveAtAnyCut", fn := fun _ => fun
  | [d1, d2] => { results := [.lit (.bool true)], args := [d1, d2] }
  | _ => none }
def fnNanosecondsAdditiveAtAnyCutRow : OpenClaim := { program := "qxb6623468a", sum := "847e3e9fc1d86bafded3697de37d76f3e58050d754dea533bfed5ee51aae2f1d", func := "example.com/tempora/tempora/zzlaws_root_b1.FnNanosecondsAdditiveAtAnyCut", spec := "fnNanosecondsAdditiveAtAnyCut", apart := false }
def FnNanosecondsAdditiveAtAnyCutSaid : Prop := fnNanosecondsAdditiveAtAnyCutRow.holds Try.pinned (OpenSpec.ofChange fnNanosecondsAdditiveAtAnyCutSpec)

/-- ITS FALSE NEIGHBOUR: 'it returns false'. Refute it at one input. -/
def fnNanosecondsAdditiveAtAnyCutWrong : ChangeSpec := { name := "fnNanosecondsAdditiveAtAnyCut", fn := fun _ => fun
  | [d1, d2] => { results := [.lit (.bool false)], args := [d1, d2] }
  | _ => none }
def FnNanosecondsAdditiveAtAnyCutWrongFalsely : Prop := fnNanosecondsAdditiveAtAnyCutRow.holds Try.pinned (OpenSpec.ofChange fnNanosecondsAdditiveAtAnyCutWrong)

/-- 'zzlaws_root_b1.FnNanosecondsOrderFaithful': WHATEVER THE INPUT: true; the input reads as it did. -/
def fnNanosecondsOrderFaithfulSpec : ChangeSpec := { name := "fnNanosecondsOrderFaithful", fn := fun _ => fun
  | [d1, d2] => { results := [.lit (.bool true)], args := [d1, d2] }
  | _ => none }
def fnNanosecondsOrderFaithfulRow : OpenClaim := { program := "qxb6623468a", sum := "847e3e9fc1d86bafded3697de37d76f3e58050d754dea533bfed5ee51aae2f1d", func := "example.com/tempora/tempora/zzlaws_root_b1.FnNanosecondsOrderFaithful", spec := "fnNanosecondsOrderFaithful", apart := false }
def FnNanosecondsOrderFaithfulSaid : Prop := fnNanosecondsOrderFaithfulRow.holds Try.pinned (OpenSpec.ofChange fnNanosecondsOrderFaithfulSpec)

/-- ITS FALSE NEIGHBOUR: 'it returns false'. Refute it at one input. -/
def fnNanosecondsOrderFaithfulWrong : ChangeSpec := { name := "fnNanosecondsOrderFaithful", fn := fun _ => fun
  | [d1, d2] => { results := [.lit (.bool false)], args := [d1, d2] }
  | _ => none }
def FnNanosecondsOrderFaithfulWrongFalsely : Prop := fnNanosecondsOrderFaithfulRow.holds Try.pinned (OpenSpec.ofChange fnNanosecondsOrderFaithfulWrong)

end Rows
end Go.Proofs.Qxb6623468a
