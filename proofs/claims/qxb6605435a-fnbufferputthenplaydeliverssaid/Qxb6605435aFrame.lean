/-
  SEAT b6605435a. FROM THE ROW's DATA TO WHAT THE WALKS ARE TOLD: '[][]byte' and '[]byte' opened.
-/
import Derived.Test.Qxb6605435aOwn
import Derived.ProofKit
import Derived.Deep.Matrix
namespace Go.Proofs.Qxb6605435a
open Go.ChangeShapes Go.WideShapes Go.ChangeAt Go.RowKit Go.Deep

theorem Try.own : ownKnob Try.prog.godebug = none := by kernel_rfl
theorem Try.laidOut : laidOutB Try.prog = true := by kernel_rfl
theorem Try.cells24 : Try.prog.cellsOf 24 = 1 := by kernel_rfl
theorem Try.cells5 : Try.prog.cellsOf 5 = 1 := by kernel_rfl

theorem addr_plain {w : World} {a : Addr} {n : Nat} {V : Nat → Value} (h : ∀ r, r < n → w.cell? (a.add r) = some (V r)) (h0 : 0 < n) : ∃ b off, a = ⟨b, off, none⟩ ∧ ∀ r, r < n → w.cell? ⟨b, off + r, none⟩ = some (V r) := by
  obtain ⟨b, off, spot⟩ := a
  have hspot : spot = none := by simpa [Addr.add] using World.cell?_spot (h 0 h0)
  subst hspot
  exact ⟨b, off, rfl, fun r hr => by rw [← add_plain]; exact h r hr⟩

/-- A uint64 that came in. -/
theorem nat_of_u64 {x : Int} (h : (Lit.int .u64 x).wf = true) : ∃ k : Nat, x = k ∧ k ≤ 18446744073709551615 := by
  simp [Lit.wf, IntKind.min, IntKind.max, IntKind.signed, IntKind.bits] at h
  exact ⟨x.toNat, by omega, by omega⟩

section
variable {H : Type} {enc : TypeId × Value → H} {W : World} {d : DataW H} {p : List MemPlace}

theorem bytes_of_ints {a : Addr} {l c : Nat} {zs : List Int} (hl : l ≤ c) (hz : zs.length = c) (hcell : ∀ i, i < zs.length → W.cell? (a.add i) = some (.int .u8 (zs.getD i 0))) : BytesIn W (some a) l := fun j hj => by
  obtain ⟨b, off, rfl, hc⟩ := addr_plain (n := zs.length) (V := fun i => .int .u8 (zs.getD i 0)) hcell (by omega)
  exact ⟨b, off, _, rfl, hc j (by omega)⟩

theorem trodAll_put {P : Program} {base : Nat} {spare : Nat → Bool} {held : Bool} {t : TypeId} {ts : List TypeId} {v : Value} {vs : List Value} {ds : List (DataW H)} {p' : List MemPlace}
    (h : DataW.Trod enc P W base spare held t v d p) (h' : DataW.TrodAll enc P W base spare held ts vs ds p') : DataW.TrodAll enc P W base spare held (t :: ts) (v :: vs) (d :: ds) (p ++ p') := ⟨p, p', h, h', rfl⟩

/-- '[]byte'. -/
theorem open_chunk {ao : Option Addr} {l c : Nat} (h : DataW.Trod enc Try.prog W 0 (fun _ => true) true 24 (.slice ao l c) d p) :
    l ≤ 9223372036854775807 ∧ (ao = none → l = 0 ∧ c = 0) ∧ BytesIn W ao l := by
  obtain ⟨fuel, hf⟩ := h
  rcases open_ints Try.underlying24 Try.underlying5 Try.cells5 hf with ⟨hcs, _⟩ | ⟨a, l', c', zs, hcs, _, hl, hm, hz, _, hcell, _⟩
  · simp [Value.cells] at hcs
    obtain ⟨rfl, rfl, rfl⟩ := hcs
    exact ⟨by omega, fun _ => ⟨rfl, rfl⟩, fun j hj => absurd hj (Nat.not_lt_zero _)⟩
  · simp [Value.cells] at hcs
    obtain ⟨rfl, rfl, rfl⟩ := hcs
    unfold maxLen at hm
    exact ⟨by omega, (fun e => by cases e), bytes_of_ints hl (by simpa using hz) hcell⟩

/-- '[][]byte'. -/
theorem open_cells {ao : Option Addr} {n c : Nat} (h : DataW.Trod enc Try.prog W 0 (fun _ => true) true 23 (.slice ao n c) d p) :
    n ≤ 9223372036854775807 ∧ ∃ A L C, Arg W ao n c A L C := by
  obtain ⟨fuel, hf⟩ := h
  rcases open_int_rows Try.underlying23 Try.underlying24 Try.underlying5 Try.cells24 Try.cells5 hf with ⟨hcs, _⟩ | ⟨a, n', c', A, L, C, Z, hcs, _, hl, hm, _, hx⟩
  · simp [Value.cells] at hcs
    obtain ⟨rfl, rfl, rfl⟩ := hcs
    exact ⟨by omega, fun _ => none, fun _ => 0, fun _ => 0, fun i hi => absurd hi (Nat.not_lt_zero _), fun _ => ⟨rfl, rfl⟩, fun i hi => absurd hi (Nat.not_lt_zero _)⟩
  · simp [Value.cells] at hcs
    obtain ⟨rfl, rfl, rfl⟩ := hcs
    unfold maxLen at hm
    refine ⟨by omega, A, L, C, fun i hi => ?_, (fun e => by cases e), fun i hi => ?_⟩
    · obtain ⟨b, off, rfl, hc⟩ := addr_plain (n := c) (V := fun r => .slice (A r) (L r) (C r)) (fun r hr => (hx r hr).1) (by omega)
      obtain ⟨_, h1, h2, _⟩ := hx i (by omega)
      unfold maxLen at h2
      exact ⟨b, off, rfl, hc i (by omega), by omega⟩
    · obtain ⟨_, h1, h2, h3, _, h5, h6⟩ := hx i (by omega)
      refine ⟨fun e => ⟨by have := h5 e; omega, h5 e⟩, ?_⟩
      rcases hAi : A i with _ | a'
      · exact fun j hj => absurd hj (by have := h5 hAi; omega)
      · exact bytes_of_ints h1 h3 (fun j hj => (h6 a' hAi).2 j (by omega))
end
end Go.Proofs.Qxb6605435a
