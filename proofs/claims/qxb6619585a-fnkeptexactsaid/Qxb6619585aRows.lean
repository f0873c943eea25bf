/-
  No cell of these rows narrows 'for every input' (looked for: loops, veiled, ifaces, maps, wideKeys, modest, calm, conditions, laid).
  DERIVED. THE GIVEN ROWS OF THIS SEAT. 2 by the template 'for every input the law returns true; each argument reads behind the call as it read before'; 0 by the template 'total and deterministic' (their statements: Qxb6619585aTotals.lean).
  GIVEN WITH THE SEED: the statements are not yours to turn. If you find one false, say at which input.
  Laid BY PROGRAM, IN A SANDBOX (cutbox-rows.mjs): the forced cells as the released guide's own fill.sh prints them over the translation 5aaf1ce917e53de2… (all of the seat's roots in one cut). By AI agents, Wed Nov 11 2026. No macro, syntax, notation, axiom, sorry.
-/
import Derived.Test.Qxb6619585aChecked
import GoSem.Claim
import GoSem.ClaimJoined
import GoSem.ClaimMapViews
import Derived.JoinedTies
import Derived.KernelRfl
namespace Go.Proofs.Qxb6619585a
/- THE CELL 'sum', in the pinned program and in every row, IS THE sha256 OF THE DUMP (.gsa) THAT Qxb6619585aProg.lean LOADS. Nothing in Lean hashes anything: it is a label: what it is worth is what the hold of that sum in a sandbox is worth. -/
noncomputable def Try.pinned : Pinned := { name := "qxb6619585a", sum := "5aaf1ce917e53de246060fbd475e41524f0558daf0dfb06c57ad82c6ff257ee1", checked := Try.checked }
namespace Rows
def none {H : Type} : Left H := { results := [], args := [] }

/-- 'zzlaws_internal_eventlog_b1.FnKeptExact': WHATEVER THE INPUT: true; the input reads as it did. -/
def fnKeptExactSpec : ChangeSpec := { name := "fnKeptExact", fn := fun _ => fun
  | [d1, d2, d3, d4, d5, d6] => { results := [.lit (.bool true)], args := [d1, d2, d3, d4, d5, d6] }
  | _ => none }
def fnKeptExactRow : OpenClaim := { program := "qxb6619585a", sum := "5aaf1ce917e53de246060fbd475e41524f0558daf0dfb06c57ad82c6ff257ee1", func := "example.com/stowage/stowage/zzlaws_internal_eventlog_b1.FnKeptExact", spec := "fnKeptExact", apart := false }
def FnKeptExactSaid : Prop := fnKeptExactRow.holds Try.pinned (OpenSpec.ofChange fnKeptExactSpec)

/-- ITS FALSE NEIGHBOUR: 'it returns false'. Refute it at one input. -/
def fnKeptExactWrong : ChangeSpec := { name := "fnKeptExact", fn := fun _ => fun
  | [d1, d2, d3, d4, d5, d6] => { results := [.lit (.bool false)], args := [d1, d2, d3, d4, d5, d6] }
  | _ => none }
def FnKeptExactWrongFalsely : Prop := fnKeptExactRow.holds Try.pinned (OpenSpec.ofChange fnKeptExactWrong)

/-- 'zzlaws_internal_eventlog_b1.FnKeptShrinkCapacity': WHATEVER THE INPUT: true; the input reads as it did. -/
def fnKeptShrinkCapacitySpec : ChangeSpec := { name := "fnKeptShrinkCapacity", fn := fun _ => fun
  | [d1, d2, d3, d4, d5, d6, d7] => { results := [.lit (.bool true)], args := [d1, d2, d3, d4, d5, d6, d7] }
  | _ => none }
def fnKeptShrinkCapacityRow : OpenClaim := { program := "qxb6619585a", sum := "5aaf1ce917e53de246060fbd475e41524f0558daf0dfb06c57ad82c6ff257ee1", func := "example.com/stowage/stowage/zzlaws_internal_eventlog_b1.FnKeptShrinkCapacity", spec := "fnKeptShrinkCapacity", apart := false }
def FnKeptShrinkCapacitySaid : Prop := fnKeptShrinkCapacityRow.holds Try.pinned (OpenSpec.ofChange fnKeptShrinkCapacitySpec)

/-- ITS FALSE NEIGHBOUR: 'it returns false'. Refute it at one input. -/
def fnKeptShrinkCapacityWrong : ChangeSpec := { name := "fnKeptShrinkCapacity", fn := fun _ => fun
  | [d1, d2, d3, d4, d5, d6, d7] => { results := [.lit (.bool false)], args := [d1, d2, d3, d4, d5, d6, d7] }
  | _ => none }
def FnKeptShrinkCapacityWrongFalsely : Prop := fnKeptShrinkCapacityRow.holds Try.pinned (OpenSpec.ofChange fnKeptShrinkCapacityWrong)

end Rows
end Go.Proofs.Qxb6619585a
