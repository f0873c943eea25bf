/-
  No cell of these rows narrows 'for every input' (looked for: loops, veiled, ifaces, maps, wideKeys, modest, calm, conditions, laid).
  DERIVED. THE GIVEN ROWS OF THIS SEAT. 3 by the template 'for every input the law returns true; each argument reads behind the call as it read before'; 0 by the template 'total and deterministic' (their statements: Qxb6619682aTotals.lean).
  GIVEN WITH THE SEED: the statements are not yours to turn. If you find one false, say at which input.
  Laid BY PROGRAM, IN A SANDBOX (cutbox-rows.mjs): the forced cells as the released guide's own fill.sh prints them over the translation de20f4ec9eaa6654… (all of the seat's roots in one cut). By AI agents, Wed Nov 11 2026. No macro, syntax, notation, axiom, sorry.
-/
import Derived.Test.Qxb6619682aChecked
import GoSem.Claim
import GoSem.ClaimJoined
import GoSem.ClaimMapViews
import Derived.JoinedTies
import Derived.KernelRfl
namespace Go.Proofs.Qxb6619682a
/- THE CELL 'sum', in the pinned program and in every row, IS THE sha256 OF THE DUMP (.gsa) THAT Qxb6619682aProg.lean LOADS. Nothing in Lean hashes anything: it is a label: what it is worth is what the hold of that sum in a sandbox is worth. -/
noncomputable def Try.pinned : Pinned := { name := "qxb6619682a", sum := "de20f4ec9eaa66545f50dc14471734f63e4848b7c08f3185d8a6cb850dee5ee5", checked := Try.checked }
namespace Rows
def none {H : Type} : Left H := { results := [], args := [] }

/-- 'zzlaws_root_b1.FnIsDigitsCutsAndBytes': WHATEVER THE INPUT: true; the input reads as it did. -/
def fnIsDigitsCutsAndBytesSpec : ChangeSpec := { name := "fnIsDigitsCutsAndBytes", fn := fun _ => fun
  | [d1, d2] => { results := [.lit (.bool true)], args := [d1, d2] }
  | _ => none }
def fnIsDigitsCutsAndBytesRow : OpenClaim := { program := "qxb6619682a", sum := "de20f4ec9eaa66545f50dc14471734f63e4848b7c08f3185d8a6cb850dee5ee5", func := "example.com/whereabouts/whereabouts/zzlaws_root_b1.FnIsDigitsCutsAndBytes", spec := "fnIsDigitsCutsAndBytes", apart := false }
def FnIsDigitsCutsAndBytesSaid : Prop := fnIsDigitsCutsAndBytesRow.holds Try.pinned (OpenSpec.ofChange fnIsDigitsCutsAndBytesSpec)

/-- ITS FALSE NEIGHBOUR: 'it returns false'. Refute it at one input. -/
def fnIsDigitsCutsAndBytesWrong : ChangeSpec := { name := "fnIsDigitsCutsAndBytes", fn := fun _ => fun
  | [d1, d2] => { results := [.lit (.bool false)], args := [d1, d2] }
  | _ => none }
def FnIsDigitsCutsAndBytesWrongFalsely : Prop := fnIsDigitsCutsAndBytesRow.holds Try.pinned (OpenSpec.ofChange fnIsDigitsCutsAndBytesWrong)

/-- 'zzlaws_root_b1.FnSplitAfterBlankTail': WHATEVER THE INPUT: true; the input reads as it did. -/
def fnSplitAfterBlankTailSpec : ChangeSpec := { name := "fnSplitAfterBlankTail", fn := fun _ => fun
  | [d1, d2, d3] => { results := [.lit (.bool true)], args := [d1, d2, d3] }
  | _ => none }
def fnSplitAfterBlankTailRow : OpenClaim := { program := "qxb6619682a", sum := "de20f4ec9eaa66545f50dc14471734f63e4848b7c08f3185d8a6cb850dee5ee5", func := "example.com/whereabouts/whereabouts/zzlaws_root_b1.FnSplitAfterBlankTail", spec := "fnSplitAfterBlankTail", apart := false }
def FnSplitAfterBlankTailSaid : Prop := fnSplitAfterBlankTailRow.holds Try.pinned (OpenSpec.ofChange fnSplitAfterBlankTailSpec)

/-- ITS FALSE NEIGHBOUR: 'it returns false'. Refute it at one input. -/
def fnSplitAfterBlankTailWrong : ChangeSpec := { name := "fnSplitAfterBlankTail", fn := fun _ => fun
  | [d1, d2, d3] => { results := [.lit (.bool false)], args := [d1, d2, d3] }
  | _ => none }
def FnSplitAfterBlankTailWrongFalsely : Prop := fnSplitAfterBlankTailRow.holds Try.pinned (OpenSpec.ofChange fnSplitAfterBlankTailWrong)

/-- 'zzlaws_root_b1.FnSplitFieldsScript': WHATEVER THE INPUT: true; the input reads as it did. -/
def fnSplitFieldsScriptSpec : ChangeSpec := { name := "fnSplitFieldsScript", fn := fun _ => fun
  | [d1, d2] => { results := [.lit (.bool true)], args := [d1, d2] }
  | _ => none }
def fnSplitFieldsScriptRow : OpenClaim := { program := "qxb6619682a", sum := "de20f4ec9eaa66545f50dc14471734f63e4848b7c08f3185d8a6cb850dee5ee5", func := "example.com/whereabouts/whereabouts/zzlaws_root_b1.FnSplitFieldsScript", spec := "fnSplitFieldsScript", apart := false }
def FnSplitFieldsScriptSaid : Prop := fnSplitFieldsScriptRow.holds Try.pinned (OpenSpec.ofChange fnSplitFieldsScriptSpec)

/-- ITS FALSE NEIGHBOUR: 'it returns false'. Refute it at one input. -/
def fnSplitFieldsScriptWrong : ChangeSpec := { name := "fnSplitFieldsScript", fn := fun _ => fun
  | [d1, d2] => { results := [.lit (.bool false)], args := [d1, d2] }
  | _ => none }
def FnSplitFieldsScriptWrongFalsely : Prop := fnSplitFieldsScriptRow.holds Try.pinned (OpenSpec.ofChange fnSplitFieldsScriptWrong)

end Rows
end Go.Proofs.Qxb6619682a
