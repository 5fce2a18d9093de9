/-
  SEAT b6605435a. THE LAWS' OWN STATE: the cloned cells in block B, the buffer in block Bb, nothing old turned; what Put and Play make of it.
-/
import Derived.Test.Qxb6605435aPlay
namespace Go.Proofs.Qxb6605435a
open Go.RowKit

/-! ### Numbers -/
/-- The u64 counter behind j steps. -/
def U (x j : Nat) : Nat := (x + j) % 18446744073709551616
theorem U_zero {x : Nat} (h : x ≤ 18446744073709551615) : U x 0 = x := by unfold U; omega
theorem U_le (x j : Nat) : U x j ≤ 18446744073709551615 := by unfold U; omega
theorem U_in {x j : Nat} (h : x + j ≤ 18446744073709551615) : U x j = x + j := by unfold U; omega
theorem U_wrap (x j : Nat) : IntKind.u64.wrap ((U x j : Int) + 1) = ((U x (j + 1) : Nat) : Int) := by
  unfold U
  simp [IntKind.wrap, IntKind.signed, IntKind.bits]
  omega

/-- The slice in a cell is nil. -/
def nilV : Value → Bool
  | .slice none _ _ => true
  | _ => false
def cntN (W : Nat → Value) : Nat → Nat
  | 0 => 0
  | j + 1 => cntN W j + if nilV (W j) then 0 else 1
theorem cntN_le (W : Nat → Value) (j : Nat) : cntN W j ≤ j := by
  induction j with
  | zero => exact Nat.le_refl _
  | succ j ih => unfold cntN; split <;> omega
theorem wrap64_step (p : Int) (c : Int) : wrap64 (wrap64 (p + c) + 1) = wrap64 (p + (c + 1)) := by
  unfold wrap64
  omega
theorem wrap64_in {p : Int} (h : (Lit.int .i64 p).wf = true) : wrap64 (p + 0) = p := by
  simp [Lit.wf, IntKind.min, IntKind.max, IntKind.signed, IntKind.bits] at h
  unfold wrap64
  omega

/-! ### The ring -/
theorem mod_slot {x i n : Nat} (hi : i < n) : (x + i) % n = if x % n + i < n then x % n + i else x % n + i - n := by
  have hn : 0 < n := by omega
  have ha : x % n < n := Nat.mod_lt _ hn
  rw [← Nat.mod_add_mod]
  split
  · exact Nat.mod_eq_of_lt ‹_›
  · rw [Nat.mod_eq_sub_mod (by omega)]
    exact Nat.mod_eq_of_lt (by omega)
/-- How far place k lies behind the first place of the window. -/
def age (x n k : Nat) : Nat := if x % n ≤ k then k - x % n else k + n - x % n
theorem age_slot {x i n : Nat} (hi : i < n) : age x n ((x + i) % n) = i := by
  have ha : x % n < n := Nat.mod_lt _ (by omega)
  rw [mod_slot hi]
  unfold age
  split <;> split <;> omega
theorem age_lt {x n k : Nat} (hk : k < n) : age x n k < n := by
  have ha : x % n < n := Nat.mod_lt _ (by omega)
  unfold age
  split <;> omega
theorem slot_age {x n k : Nat} (hk : k < n) : (x + age x n k) % n = k := by
  have ha : x % n < n := Nat.mod_lt _ (by omega)
  rw [mod_slot (age_lt hk)]
  unfold age
  split <;> split <;> omega
/-- The cells behind j plays. -/
def clr (F : Nat → Value) (x n j : Nat) : Nat → Value := fun k => if age x n k < j then .slice none 0 0 else F k
theorem clr_zero (F : Nat → Value) (x n : Nat) : clr F x n 0 = F := by funext k; simp [clr]
theorem clr_at (F : Nat → Value) {x n j : Nat} (hj : j < n) : clr F x n j ((x + j) % n) = F ((x + j) % n) := by
  unfold clr
  rw [age_slot hj, if_neg (by omega)]
theorem clr_step (F : Nat → Value) {x n j : Nat} (hj : j < n) (k : Nat) (hk : k < n) : (if k = (x + j) % n then Value.slice none 0 0 else clr F x n j k) = clr F x n (j + 1) k := by
  unfold clr
  by_cases e : k = (x + j) % n
  · rw [if_pos e, e, age_slot hj, if_pos (by omega)]
  · rw [if_neg e]
    have : age x n k ≠ j := fun h => e (by rw [← h, slot_age hk])
    by_cases h1 : age x n k < j
    · rw [if_pos h1, if_pos (by omega)]
    · rw [if_neg h1, if_neg (by omega)]
theorem clr_all (F : Nat → Value) {x n k : Nat} (hk : k < n) : clr F x n n k = .slice none 0 0 := by
  unfold clr
  rw [if_pos (age_lt hk)]

/-! ### The state -/
/-- NOTHING BUT BLOCKS B AND Bb HAS TURNED. -/
structure Rest (B Bb : Nat) (w w' : World) : Prop where
  os : w'.os = w.os
  tape : w'.tape = w.tape
  output : w'.output = w.output
  size : w'.heap.size = w.heap.size
  block : ∀ k, k ≠ B → k ≠ Bb → w'.heap[k]? = w.heap[k]?
theorem Rest.refl (B Bb : Nat) (w : World) : Rest B Bb w w := ⟨rfl, rfl, rfl, rfl, fun _ _ _ => rfl⟩
theorem Rest.set {B Bb : Nat} {w w' : World} (h : Rest B Bb w w') {a : Addr} (ha : a.block = B ∨ a.block = Bb) (v : Value) : Rest B Bb w (w'.setCell a v) :=
  ⟨h.os, h.tape, h.output, by simpa [World.setCell] using h.size, fun k h1 h2 => (Below.heap_setCell _ _ _ _ (by rcases ha with e | e <;> omega)).trans (h.block k h1 h2)⟩
theorem Rest.drewN {B Bb : Nat} {w w' : World} (h : Rest B Bb w w') (q : Nat) : Rest B Bb w (w'.drewN q) := ⟨h.os, h.tape, h.output, h.size, h.block⟩
theorem Rest.below {B Bb S : Nat} {w0 w w' : World} (h : Rest B Bb w w') (h0 : Below S w0 w) (hB : S ≤ B) (hBb : S ≤ Bb) : Below S w0 w' :=
  h0.trans ⟨h.os, h.tape, h.output, by rw [h.size]; exact Nat.le_refl _, fun k hk => h.block k (by omega) (by omega)⟩
theorem Own.rest {B Bb : Nat} {w w' : World} {ao : Option Addr} {l : Nat} (h : Own w ao l) (hr : Rest B Bb w w') {n n' : Nat} {F F' : Nat → Value} (hB : w.rowIs B 24 n F) (hBb : w.rowIs Bb 40 n' F') : Own w' ao l :=
  h.of_block (fun g _ _ hg => hr.block g (rowIs_type hg hB (by decide)) (rowIs_type hg hBb (by decide)))
theorem CRow.rest {B Bb N : Nat} {w w' : World} {k : Nat} {W : Nat → Value} (h : CRow w N k W) (hN : N ≠ B) (hr : Rest B Bb w w') {n n' : Nat} {F F' : Nat → Value} (hB : w.rowIs B 24 n F) (hBb : w.rowIs Bb 40 n' F') : CRow w' N k W :=
  ⟨h.row.of_block (hr.block N hN (rowIs_type h.row hBb (by decide))), fun i hi => by
    obtain ⟨ao, l, e, ho⟩ := h.own i hi
    exact ⟨ao, l, e, ho.rest hr hB hBb⟩⟩

theorem CRow.setOther {w : World} {B n : Nat} {F : Nat → Value} (h : CRow w B n F) {b : Nat} {t : TypeId} {k : Nat} {f : Nat → Value} (hb : w.rowIs b t k f) (ht : t ≠ 5) (hne : B ≠ b) (i : Nat) (u : Value) : CRow (w.setCell ⟨b, i, none⟩ u) B n F :=
  ⟨h.row.setOther hne u, fun j hj => (h.own j hj).setCell hb ht i u⟩
theorem CRow.congr {w : World} {B n : Nat} {F G : Nat → Value} (h : CRow w B n F) (e : ∀ i, i < n → F i = G i) : CRow w B n G :=
  ⟨h.row.congr e, fun i hi => by rw [← e i hi]; exact h.own i hi⟩

/-- THE STATE OF A LAW: the cells' row, the buffer, the counters. -/
structure Buf (S : Nat) (w0 w : World) (B Bb n x : Nat) (F : Nat → Value) (p m : Int) : Prop where
  below : Below S w0 w
  hB : S ≤ B
  hBb : S ≤ Bb
  crow : CRow w B n F
  brow : BRow w Bb x (some ⟨B, 0, none⟩) n n p m
theorem Buf.ne {S : Nat} {w0 w : World} {B Bb n x : Nat} {F : Nat → Value} {p m : Int} (h : Buf S w0 w B Bb n x F p m) : B ≠ Bb := rowIs_type h.crow.row h.brow.row (by decide)
theorem Buf.drewN {S : Nat} {w0 w : World} {B Bb n x : Nat} {F : Nat → Value} {p m : Int} (h : Buf S w0 w B Bb n x F p m) (q : Nat) : Buf S w0 (w.drewN q) B Bb n x F p m :=
  ⟨⟨h.below.os, h.below.tape, h.below.output, h.below.size, h.below.block⟩, h.hB, h.hBb, h.crow.drewN q, h.brow⟩

/-- What Play leaves. -/
structure Played (S : Nat) (w0 w : World) (B Bb n x j : Nat) (F : Nat → Value) (p m : Int) (ao : Option Addr) (l : Nat) (w' : World) : Prop where
  buf : Buf S w0 w' B Bb n (U x (j + 1)) (clr F x n (j + 1)) (if nilV (.slice ao l l) then p else wrap64 (p + 1)) (if nilV (.slice ao l l) then wrap64 (m + 1) else m)
  own : Own w' ao l
  rest : Rest B Bb w w'

theorem play (S : Nat) (w0 w : World) (B Bb n x j : Nat) (F : Nat → Value) (p m : Int) (hn : n ≤ 65536) (hj : j < n) (hx : x + j ≤ 18446744073709551615) (h : Buf S w0 w B Bb n (U x j) (clr F x n j) p m)
    (ao : Option Addr) (l : Nat) (hF : F ((x + j) % n) = .slice ao l l) :
    Calls Try.prog 17 #[.pointer (some ⟨Bb, 0, none⟩)] w fun e w' => e = .returned (.slice ao l l) ∧ Played S w0 w B Bb n x j F p m ao l w' := by
  have hn0 : 0 < n := by omega
  have hix : (x + j) % n < n := Nat.mod_lt _ hn0
  have hU : U x j % n = (x + j) % n := by rw [U_in hx]
  have hcell : w.cell? ⟨B, U x j % n, none⟩ = some (.slice ao l l) := by rw [hU, h.crow.row.cell hix, clr_at F hj, hF]
  have hfro : w.frozen? ⟨B, U x j % n, none⟩ = false := h.crow.row.frozen _
  have howns := h.crow.own _ hix
  rw [clr_at F hj, hF] at howns
  obtain ⟨ao', l', e', hown⟩ := howns
  obtain ⟨rfl, rfl⟩ : ao = ao' ∧ l = l' := by simpa using e'
  clear e'
  have hne := h.ne
  have cr1 := h.crow.set ((x + j) % n) (ownV_nil w)
  have br1 : BRow (w.setCell ⟨B, (x + j) % n, none⟩ (.slice none 0 0)) Bb (U x j) (some ⟨B, 0, none⟩) n n p m := h.brow.of_block (Below.heap_setCell _ _ _ _ (fun e => hne e.symm))
  have br2 := br1.set0 ((U x (j + 1) : Nat) : Int)
  rcases ao with _ | ad
  · have hl : l = 0 := by
      rcases hown with ⟨_, h0⟩ | ⟨g, Z, h0, _⟩
      · exact h0
      · cases h0
    subst hl
    refine (play_nil Bb (U x j) B n p m w (U_le x j) hn hn0 hne h.brow hcell hfro).mono ?_
    rintro e w' ⟨rfl, q, rfl⟩
    rw [hU, U_wrap]
    have br3 := br2.set3 (wrap64 (m + 1))
    have hrest : Rest B Bb w (((w.setCell ⟨B, (x + j) % n, none⟩ (.slice none 0 0)).setCell ⟨Bb, 0, none⟩ (.int .u64 (U x (j + 1) : Nat))).setCell ⟨Bb, 3, none⟩ (.int .i64 (wrap64 (m + 1)))) :=
      (((Rest.refl B Bb w).set (Or.inl rfl) _).set (Or.inr rfl) _).set (Or.inr rfl) _
    exact ⟨rfl, Buf.drewN ⟨hrest.below h.below h.hB h.hBb, h.hB, h.hBb, ((cr1.setOther br1.row (by decide) hne 0 _).setOther br2.row (by decide) hne 3 _).congr (fun k hk => clr_step F hj k hk), br3⟩ q,
      (hown.rest hrest h.crow.row h.brow.row).drewN q, hrest.drewN q⟩
  · refine (play_some Bb (U x j) B n p m ad l w (U_le x j) hn hn0 hne h.brow hcell hfro).mono ?_
    rintro e w' ⟨rfl, q, rfl⟩
    rw [hU, U_wrap]
    have br3 := br2.set2 (wrap64 (p + 1))
    have hrest : Rest B Bb w (((w.setCell ⟨B, (x + j) % n, none⟩ (.slice none 0 0)).setCell ⟨Bb, 0, none⟩ (.int .u64 (U x (j + 1) : Nat))).setCell ⟨Bb, 2, none⟩ (.int .i64 (wrap64 (p + 1)))) :=
      (((Rest.refl B Bb w).set (Or.inl rfl) _).set (Or.inr rfl) _).set (Or.inr rfl) _
    exact ⟨rfl, Buf.drewN ⟨hrest.below h.below h.hB h.hBb, h.hB, h.hBb, ((cr1.setOther br1.row (by decide) hne 0 _).setOther br2.row (by decide) hne 2 _).congr (fun k hk => clr_step F hj k hk), br3⟩ q,
      (hown.rest hrest h.crow.row h.brow.row).drewN q, hrest.drewN q⟩

end Go.Proofs.Qxb6605435a
