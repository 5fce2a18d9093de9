/-
  SEAT b6605482a. '[16]byte' BY VALUE, OPENED.
-/
import Derived.Test.Qxb6605482aUlid
import Derived.ProofKit
import Derived.OpenShut
import Derived.Deep.Slices
namespace Go.Proofs.Qxb6605482a
open Go.ChangeShapes Go.WideShapes Go.ChangeAt Go.RowKit

theorem Try.own : ownKnob Try.prog.godebug = none := by kernel_rfl
theorem Try.laidOut : laidOutB Try.prog = true := by kernel_rfl
theorem Try.cells22 : Try.prog.cellsOf 22 = 16 := by kernel_rfl
theorem Try.cells5 : Try.prog.cellsOf 5 = 1 := by kernel_rfl

theorem byte_of_wf {x : Int} (h : (Lit.int .u8 x).wf = true) : 0 ≤ x ∧ x ≤ 255 := by
  simp [Lit.wf, IntKind.min, IntKind.max, IntKind.signed, IntKind.bits] at h
  omega

section
variable {H : Type} {enc : TypeId × Value → H} {W : World} {d : DataW H} {p : List MemPlace} {v : Value} {r : Reach} {b0 : Nat}
theorem open_arr (hv : Value.okWide Try.prog W r b0 22 v) (h : DataW.Trod enc Try.prog W 0 (fun _ => true) true 22 v d p) : ∃ b : Nat → Int, v = .agg (arr b) ∧ ∀ i, 0 ≤ b i ∧ b i ≤ 255 := by
  obtain ⟨cs, rfl, hsz⟩ : ∃ cs, v = .agg cs ∧ cs.size = 16 := by
    unfold Value.okWide at hv
    rw [Try.underlying22] at hv
    obtain ⟨cs, h1, h2, _⟩ := hv
    exact ⟨cs, h1, h2.trans Try.cells22⟩
  obtain ⟨fuel, hf⟩ := h
  obtain ⟨xs, m, _, _, _, hxs, hx⟩ := DataW.trod_array Try.underlying22 hf
  have each : ∀ i, i < 16 → ∃ z : Int, cs[i]? = some (.int .u8 z) ∧ 0 ≤ z ∧ z ≤ 255 := fun i hi => by
    have h1 := hx i hi
    rw [Try.cells5, Nat.mul_one, List.getElem?_eq_getElem (by omega)] at h1
    obtain ⟨z, h2, _, h3⟩ := DataW.trod_int Try.underlying5 h1
    have h4 := congrArg (fun l => l[0]?) h2
    simp [Value.cells] at h4
    exact ⟨z, h4, byte_of_wf h3⟩
  obtain ⟨f, hf2⟩ := Deep.choose_lt each
  refine ⟨fun i => if i < 16 then f i else 0, ?_, fun i => ?_⟩
  · congr 1
    apply Array.ext_getElem?
    intro i
    by_cases hi : i < 16
    · rw [(hf2 i hi).1, arr_at _ hi, if_pos hi]
    · rw [Array.getElem?_eq_none (by omega), Array.getElem?_eq_none (by show 16 ≤ i; omega)]
  · show 0 ≤ (if i < 16 then f i else 0) ∧ (if i < 16 then f i else 0) ≤ 255
    split
    · exact (hf2 i ‹_›).2
    · omega
end
end Go.Proofs.Qxb6605482a
