/-
  SEAT b6605435aD. THE TIED CARD OF 'FnPolicyStringTellsPoliciesApart', PROVED.
-/
import Derived.Test.Qxb6605435aDoorHolds
import Derived.Test.Qxb6605435aDoorTie
import Derived.Test.Qxb6605435aDoorCards
import Derived.SevenTiedAt
namespace Go.Proofs.Qxb6605435aDoor
open Go

theorem fnPolicyStringTellsPoliciesApartCard_holds : Rows.FnPolicyStringTellsPoliciesApartCardSaid :=
  Claim7.holds_tied_plain_at .later [] [.data, .data, .data] true (true, "1431201bc703d40ba263e8d4f6611d1cb09d8e14a3de7e6df00bab7629f74b57") false
    apart_row (fun _ h => by cases h) (by kernel_rfl) (fun _ h => by cases h) fnPolicyStringTellsPoliciesApart_row_tie rfl ⟨rfl, rfl⟩ (by kernel_rfl) rfl
    (fun f fn hf hfn => by
      obtain rfl : f = 3 := Option.some.inj ((show Tryd.prog.funcNamed Rows.fnPolicyStringTellsPoliciesApartRow.func = some 3 by kernel_rfl).symm.trans hf) |>.symm
      obtain rfl : fn = Tryd.f3 := (Option.some.inj (Tryd.func3.symm.trans hfn)).symm
      exact ⟨by kernel_rfl, fun j t ht => by
        rw [Tryd.params3] at ht
        have hm : t ∈ [22, 22] := by simpa using Array.mem_of_getElem? ht
        have hall : ([22, 22].all fun u => !Tryd.prog.wantsStandIn u) = true := by kernel_rfl
        exact (show Tryd.prog.wantsStandIn t = false by simpa using List.all_eq_true.1 hall t hm)⟩)
    (by kernel_rfl)
end Go.Proofs.Qxb6605435aDoor
