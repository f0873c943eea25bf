/-
  No cell of these rows narrows 'for every input' (looked for: loops, veiled, ifaces, maps, wideKeys, modest, calm, conditions, laid).
  DERIVED. THE GIVEN ROWS OF THIS SEAT. 1 by the template 'for every input the law returns true; each argument reads behind the call as it read before'; 0 by the template 'total and deterministic' (their statements: Qxb6619446aTotals.lean).
  GIVEN WITH THE SEED: the statements are not yours to turn. If you find one false, say at which input.
  Laid BY PROGRAM, IN A SANDBOX (cutbox-rows.mjs): the forced cells as the released guide's own fill.sh prints them over the translation 14848e2ade6467cb… (all of the seat's roots in one cut). By AI agents, Wed Nov 11 2026. No macro, syntax, notation, axiom, sorry.
-/
import Derived.Test.Qxb6619446aChecked
import GoSem.Claim
import GoSem.ClaimJoined
import GoSem.ClaimMapViews
import Derived.JoinedTies
import Derived.KernelRfl
namespace Go.Proofs.Qxb6619446a
/- THE CELL 'sum', in the pinned program and in every row, IS THE sha256 OF THE DUMP (.gsa) THAT Qxb6619446aProg.lean LOADS. Nothing in Lean hashes anything: it is a label: what it is worth is what the hold of that sum in a sandbox is worth. -/
noncomputable def Try.pinned : Pinned := { name := "qxb6619446a", sum := "14848e2ade6467cbd49eaa262786a5529e6bce5804e2a9835e2771adde7b4371", checked := Try.checked }
namespace Rows
def none {H : Type} : Left H := { results := [], args := [] }

/-- 'zzlaws_internal_store_b1.FnQuotedLenSplitsAtAnyCut': WHATEVER THE INPUT: true; the input reads as it did. -/
def fnQuotedLenSplitsAtAnyCutSpec : ChangeSpec := { name := "fnQuotedLenSplitsAtAnyCut", fn := fun _ => fun
  | [d1, d2] => { results := [.lit (.bool true)], args := [d1, d2] }
  | _ => none }
def fnQuotedLenSplitsAtAnyCutRow : OpenClaim := { program := "qxb6619446a", sum := "14848e2ade6467cbd49eaa262786a5529e6bce5804e2a9835e2771adde7b4371", func := "example.com/ledgerd/ledgerd/zzlaws_internal_store_b1.FnQuotedLenSplitsAtAnyCut", spec := "fnQuotedLenSplitsAtAnyCut", apart := false }
def FnQuotedLenSplitsAtAnyCutSaid : Prop := fnQuotedLenSplitsAtAnyCutRow.holds Try.pinned (OpenSpec.ofChange fnQuotedLenSplitsAtAnyCutSpec)

/-- ITS FALSE NEIGHBOUR: 'it returns false'. Refute it at one input. -/
def fnQuotedLenSplitsAtAnyCutWrong : ChangeSpec := { name := "fnQuotedLenSplitsAtAnyCut", fn := fun _ => fun
  | [d1, d2] => { results := [.lit (.bool false)], args := [d1, d2] }
  | _ => none }
def FnQuotedLenSplitsAtAnyCutWrongFalsely : Prop := fnQuotedLenSplitsAtAnyCutRow.holds Try.pinned (OpenSpec.ofChange fnQuotedLenSplitsAtAnyCutWrong)

end Rows
end Go.Proofs.Qxb6619446a
