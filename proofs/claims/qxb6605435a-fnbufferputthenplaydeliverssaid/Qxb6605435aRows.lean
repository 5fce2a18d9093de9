/-
  No cell of these rows narrows 'for every input' (looked for: loops, veiled, ifaces, maps, wideKeys, modest, calm, conditions, laid).
  DERIVED. THE GIVEN ROWS OF THIS SEAT. 4 by the template 'for every input the law returns true; each argument reads behind the call as it read before'; 0 by the template 'total and deterministic' (their statements: Qxb6605435aTotals.lean).
  GIVEN WITH THE SEED: the statements are not yours to turn. If you find one false, say at which input.
  Laid BY PROGRAM, IN A SANDBOX (cutbox-rows.mjs): the forced cells as the released guide's own fill.sh prints them over the translation 2b7cfdddccaa4dc9… (all of the seat's roots in one cut). By AI agents, Wed Nov 11 2026. No macro, syntax, notation, axiom, sorry.
-/
import Derived.Test.Qxb6605435aChecked
import GoSem.Claim
import GoSem.ClaimJoined
import GoSem.ClaimMapViews
import Derived.JoinedTies
import Derived.KernelRfl
namespace Go.Proofs.Qxb6605435a
/- THE CELL 'sum', in the pinned program and in every row, IS THE sha256 OF THE DUMP (.gsa) THAT Qxb6605435aProg.lean LOADS. Nothing in Lean hashes anything: it is a label: what it is worth is what the hold of that sum in a sandbox is worth. -/
noncomputable def Try.pinned : Pinned := { name := "qxb6605435a", sum := "2b7cfdddccaa4dc9a0a2fd4efe6d8cc694928f9c0a8bf46902be4b505bf04610", checked := Try.checked }
namespace Rows
def none {H : Type} : Left H := { results := [], args := [] }

/-- 'zzlaws_swarm_b1.FnBufferPutExact': WHATEVER THE INPUT: true; the input reads as it did. -/
def fnBufferPutExactSpec : ChangeSpec := { name := "fnBufferPutExact", fn := fun _ => fun
  | [d1, d2, d3, d4, d5, d6] => { results := [.lit (.bool true)], args := [d1, d2, d3, d4, d5, d6] }
  | _ => none }
def fnBufferPutExactRow : OpenClaim := { program := "qxb6605435a", sum := "2b7cfdddccaa4dc9a0a2fd4efe6d8cc694928f9c0a8bf46902be4b505bf04610", func := "example.com/rivulet/rivulet/zzlaws_swarm_b1.FnBufferPutExact", spec := "fnBufferPutExact", apart := false }
def FnBufferPutExactSaid : Prop := fnBufferPutExactRow.holds Try.pinned (OpenSpec.ofChange fnBufferPutExactSpec)

/-- ITS FALSE NEIGHBOUR: 'it returns false'. Refute it at one input. -/
def fnBufferPutExactWrong : ChangeSpec := { name := "fnBufferPutExact", fn := fun _ => fun
  | [d1, d2, d3, d4, d5, d6] => { results := [.lit (.bool false)], args := [d1, d2, d3, d4, d5, d6] }
  | _ => none }
def FnBufferPutExactWrongFalsely : Prop := fnBufferPutExactRow.holds Try.pinned (OpenSpec.ofChange fnBufferPutExactWrong)

/-- 'zzlaws_swarm_b1.FnBufferPutThenPlayDelivers': WHATEVER THE INPUT: true; the input reads as it did. -/
def fnBufferPutThenPlayDeliversSpec : ChangeSpec := { name := "fnBufferPutThenPlayDelivers", fn := fun _ => fun
  | [d1, d2, d3, d4, d5, d6] => { results := [.lit (.bool true)], args := [d1, d2, d3, d4, d5, d6] }
  | _ => none }
def fnBufferPutThenPlayDeliversRow : OpenClaim := { program := "qxb6605435a", sum := "2b7cfdddccaa4dc9a0a2fd4efe6d8cc694928f9c0a8bf46902be4b505bf04610", func := "example.com/rivulet/rivulet/zzlaws_swarm_b1.FnBufferPutThenPlayDelivers", spec := "fnBufferPutThenPlayDelivers", apart := false }
def FnBufferPutThenPlayDeliversSaid : Prop := fnBufferPutThenPlayDeliversRow.holds Try.pinned (OpenSpec.ofChange fnBufferPutThenPlayDeliversSpec)

/-- ITS FALSE NEIGHBOUR: 'it returns false'. Refute it at one input. -/
def fnBufferPutThenPlayDeliversWrong : ChangeSpec := { name := "fnBufferPutThenPlayDelivers", fn := fun _ => fun
  | [d1, d2, d3, d4, d5, d6] => { results := [.lit (.bool false)], args := [d1, d2, d3, d4, d5, d6] }
  | _ => none }
def FnBufferPutThenPlayDeliversWrongFalsely : Prop := fnBufferPutThenPlayDeliversRow.holds Try.pinned (OpenSpec.ofChange fnBufferPutThenPlayDeliversWrong)

/-- 'zzlaws_swarm_b1.FnBufferPlayExact': WHATEVER THE INPUT: true; the input reads as it did. -/
def fnBufferPlayExactSpec : ChangeSpec := { name := "fnBufferPlayExact", fn := fun _ => fun
  | [d1, d2, d3, d4] => { results := [.lit (.bool true)], args := [d1, d2, d3, d4] }
  | _ => none }
def fnBufferPlayExactRow : OpenClaim := { program := "qxb6605435a", sum := "2b7cfdddccaa4dc9a0a2fd4efe6d8cc694928f9c0a8bf46902be4b505bf04610", func := "example.com/rivulet/rivulet/zzlaws_swarm_b1.FnBufferPlayExact", spec := "fnBufferPlayExact", apart := false }
def FnBufferPlayExactSaid : Prop := fnBufferPlayExactRow.holds Try.pinned (OpenSpec.ofChange fnBufferPlayExactSpec)

/-- ITS FALSE NEIGHBOUR: 'it returns false'. Refute it at one input. -/
def fnBufferPlayExactWrong : ChangeSpec := { name := "fnBufferPlayExact", fn := fun _ => fun
  | [d1, d2, d3, d4] => { results := [.lit (.bool false)], args := [d1, d2, d3, d4] }
  | _ => none }
def FnBufferPlayExactWrongFalsely : Prop := fnBufferPlayExactRow.holds Try.pinned (OpenSpec.ofChange fnBufferPlayExactWrong)

/-- 'zzlaws_swarm_b1.FnBufferPlaysWholeWindowInOrder': WHATEVER THE INPUT: true; the input reads as it did. -/
def fnBufferPlaysWholeWindowInOrderSpec : ChangeSpec := { name := "fnBufferPlaysWholeWindowInOrder", fn := fun _ => fun
  | [d1, d2, d3, d4] => { results := [.lit (.bool true)], args := [d1, d2, d3, d4] }
  | _ => none }
def fnBufferPlaysWholeWindowInOrderRow : OpenClaim := { program := "qxb6605435a", sum := "2b7cfdddccaa4dc9a0a2fd4efe6d8cc694928f9c0a8bf46902be4b505bf04610", func := "example.com/rivulet/rivulet/zzlaws_swarm_b1.FnBufferPlaysWholeWindowInOrder", spec := "fnBufferPlaysWholeWindowInOrder", apart := false }
def FnBufferPlaysWholeWindowInOrderSaid : Prop := fnBufferPlaysWholeWindowInOrderRow.holds Try.pinned (OpenSpec.ofChange fnBufferPlaysWholeWindowInOrderSpec)

/-- ITS FALSE NEIGHBOUR: 'it returns false'. Refute it at one input. -/
def fnBufferPlaysWholeWindowInOrderWrong : ChangeSpec := { name := "fnBufferPlaysWholeWindowInOrder", fn := fun _ => fun
  | [d1, d2, d3, d4] => { results := [.lit (.bool false)], args := [d1, d2, d3, d4] }
  | _ => none }
def FnBufferPlaysWholeWindowInOrderWrongFalsely : Prop := fnBufferPlaysWholeWindowInOrderRow.holds Try.pinned (OpenSpec.ofChange fnBufferPlaysWholeWindowInOrderWrong)

end Rows
end Go.Proofs.Qxb6605435a
