/-
  DERIVED. GIVEN WITH THE SEED: THE CARDS: each row of Qxb6605435aDoorRows.lean that lists a variable, with what it lists TIED to the program's text (the seventh form; the later family's looks); each row that meets fmt, with fmt's text TOLD by the authors' own Lean function (tested against real Go, not proved from fmt's source: count such statements apart). THE CARD IS WHAT COUNTS. Prove the row's statement (the work); the ties are given (Qxb6605435aDoorTie.lean); close each card by the builder's one call (the guide's Derived/Test/ToyasCard.lean, 'card_holds'). Laid BY PROGRAM, IN A SANDBOX (cutbox-door.mjs). By AI agents, Wed Nov 11 2026. No macro, syntax, notation, axiom, sorry.
-/
import Derived.Test.Qxb6605435aDoorRows
import GoSem.ClaimSeven
namespace Go.Proofs.Qxb6605435aDoor
namespace Rows

/-- THE TIED CARD OF 'zzlaws_swarm_b1.FnPolicyStringTellsPoliciesApart'. -/
def fnPolicyStringTellsPoliciesApartCard : Claim7 := { stood := { row := fnPolicyStringTellsPoliciesApartRow, standIns := [], harness := (true, "1431201bc703d40ba263e8d4f6611d1cb09d8e14a3de7e6df00bab7629f74b57"), looks := false }, kinds := [], alts := [], laidByText := true, laidKinds := [.data, .data, .data], laidTests := true, laidLooks := .later }
def FnPolicyStringTellsPoliciesApartCardSaid : Prop := Claim7.holds Tryd.pinned (.plain (OpenSpec.ofChange fnPolicyStringTellsPoliciesApartSpec)) fnPolicyStringTellsPoliciesApartCard
end Rows
end Go.Proofs.Qxb6605435aDoor
