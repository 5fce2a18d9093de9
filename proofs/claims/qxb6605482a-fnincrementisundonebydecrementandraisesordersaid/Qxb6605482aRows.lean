/-
  No cell of these rows narrows 'for every input' (looked for: loops, veiled, ifaces, maps, wideKeys, modest, calm, conditions, laid).
  DERIVED. THE GIVEN ROWS OF THIS SEAT. 3 by the template 'for every input the law returns true; each argument reads behind the call as it read before'; 0 by the template 'total and deterministic' (their statements: Qxb6605482aTotals.lean).
  GIVEN WITH THE SEED: the statements are not yours to turn. If you find one false, say at which input.
  Laid BY PROGRAM, IN A SANDBOX (cutbox-rows.mjs): the forced cells as the released guide's own fill.sh prints them over the translation 71014daee35700e7… (all of the seat's roots in one cut). By AI agents, Wed Nov 11 2026. No macro, syntax, notation, axiom, sorry.
-/
import Derived.Test.Qxb6605482aChecked
import GoSem.Claim
import GoSem.ClaimJoined
import GoSem.ClaimMapViews
import Derived.JoinedTies
import Derived.KernelRfl
namespace Go.Proofs.Qxb6605482a
/- THE CELL 'sum', in the pinned program and in every row, IS THE sha256 OF THE DUMP (.gsa) THAT Qxb6605482aProg.lean LOADS. Nothing in Lean hashes anything: it is a label: what it is worth is what the hold of that sum in a sandbox is worth. -/
noncomputable def Try.pinned : Pinned := { name := "qxb6605482a", sum := "71014daee35700e76ee347eb2c88497a50c3b2abd5b51bd85744946b370d4206", checked := Try.checked }
namespace Rows
def none {H : Type} : Left H := { results := [], args := [] }

/-- 'zzlaws_internal_ulid_b1.FnIncrementAddsOneAsBigEndian128': WHATEVER THE INPUT: true; the input reads as it did. -/
def fnIncrementAddsOneAsBigEndian128Spec : ChangeSpec := { name := "fnIncrementAddsOneAsBigEndian128", fn := fun _ => fun
  | [d] => { results := [.lit (.bool true)], args := [d] }
  | _ => none }
def fnIncrementAddsOneAsBigEndian128Row : OpenClaim := { program := "qxb6605482a", sum := "71014daee35700e76ee347eb2c88497a50c3b2abd5b51bd85744946b370d4206", func := "example.com/relate/relate/zzlaws_internal_ulid_b1.FnIncrementAddsOneAsBigEndian128", spec := "fnIncrementAddsOneAsBigEndian128", apart := false }
def FnIncrementAddsOneAsBigEndian128Said : Prop := fnIncrementAddsOneAsBigEndian128Row.holds Try.pinned (OpenSpec.ofChange fnIncrementAddsOneAsBigEndian128Spec)

/-- ITS FALSE NEIGHBOUR: 'it returns false'. Refute it at one input. -/
def fnIncrementAddsOneAsBigEndian128Wrong : ChangeSpec := { name := "fnIncrementAddsOneAsBigEndian128", fn := fun _ => fun
  | [d] => { results := [.lit (.bool false)], args := [d] }
  | _ => none }
def FnIncrementAddsOneAsBigEndian128WrongFalsely : Prop := fnIncrementAddsOneAsBigEndian128Row.holds Try.pinned (OpenSpec.ofChange fnIncrementAddsOneAsBigEndian128Wrong)

/-- 'zzlaws_internal_ulid_b1.FnIncrementIsUndoneByDecrementAndRaisesOrder': WHATEVER THE INPUT: true; the input reads as it did. -/
def fnIncrementIsUndoneByDecrementAndRaisesOrderSpec : ChangeSpec := { name := "fnIncrementIsUndoneByDecrementAndRaisesOrder", fn := fun _ => fun
  | [d] => { results := [.lit (.bool true)], args := [d] }
  | _ => none }
def fnIncrementIsUndoneByDecrementAndRaisesOrderRow : OpenClaim := { program := "qxb6605482a", sum := "71014daee35700e76ee347eb2c88497a50c3b2abd5b51bd85744946b370d4206", func := "example.com/relate/relate/zzlaws_internal_ulid_b1.FnIncrementIsUndoneByDecrementAndRaisesOrder", spec := "fnIncrementIsUndoneByDecrementAndRaisesOrder", apart := false }
def FnIncrementIsUndoneByDecrementAndRaisesOrderSaid : Prop := fnIncrementIsUndoneByDecrementAndRaisesOrderRow.holds Try.pinned (OpenSpec.ofChange fnIncrementIsUndoneByDecrementAndRaisesOrderSpec)

/-- ITS FALSE NEIGHBOUR: 'it returns false'. Refute it at one input. -/
def fnIncrementIsUndoneByDecrementAndRaisesOrderWrong : ChangeSpec := { name := "fnIncrementIsUndoneByDecrementAndRaisesOrder", fn := fun _ => fun
  | [d] => { results := [.lit (.bool false)], args := [d] }
  | _ => none }
def FnIncrementIsUndoneByDecrementAndRaisesOrderWrongFalsely : Prop := fnIncrementIsUndoneByDecrementAndRaisesOrderRow.holds Try.pinned (OpenSpec.ofChange fnIncrementIsUndoneByDecrementAndRaisesOrderWrong)

/-- 'zzlaws_internal_ulid_b1.FnIncrementNTimesAddsN': WHATEVER THE INPUT: true; the input reads as it did. -/
def fnIncrementNTimesAddsNSpec : ChangeSpec := { name := "fnIncrementNTimesAddsN", fn := fun _ => fun
  | [d1, d2] => { results := [.lit (.bool true)], args := [d1, d2] }
  | _ => none }
def fnIncrementNTimesAddsNRow : OpenClaim := { program := "qxb6605482a", sum := "71014daee35700e76ee347eb2c88497a50c3b2abd5b51bd85744946b370d4206", func := "example.com/relate/relate/zzlaws_internal_ulid_b1.FnIncrementNTimesAddsN", spec := "fnIncrementNTimesAddsN", apart := false }
def FnIncrementNTimesAddsNSaid : Prop := fnIncrementNTimesAddsNRow.holds Try.pinned (OpenSpec.ofChange fnIncrementNTimesAddsNSpec)

/-- ITS FALSE NEIGHBOUR: 'it returns false'. Refute it at one input. -/
def fnIncrementNTimesAddsNWrong : ChangeSpec := { name := "fnIncrementNTimesAddsN", fn := fun _ => fun
  | [d1, d2] => { results := [.lit (.bool false)], args := [d1, d2] }
  | _ => none }
def FnIncrementNTimesAddsNWrongFalsely : Prop := fnIncrementNTimesAddsNRow.holds Try.pinned (OpenSpec.ofChange fnIncrementNTimesAddsNWrong)

end Rows
end Go.Proofs.Qxb6605482a
