/-
  SEAT b6605435aD. THE WALK OF FnPolicyStringTellsPoliciesApart.
-/
import Derived.Test.Qxb6605435aDoorText
namespace Go.Proofs.Qxb6605435aDoor
open Go.RowKit

set_option maxHeartbeats 400000 in
theorem policy7 (bo : Option Addr) (n : Nat) (w : World) :
    Calls Tryd.prog 7 #[.slice bo n n] w fun e w' => e = .returned (.agg #[.slice bo n n]) ∧ Below w.heap.size w w' := by
  go_enter Tryd.func7, Tryd.ntmps7
  go_wp2_with fail
  exact bodyPost_ret (v := .agg #[.slice bo n n]) (by simp [results, Tryd.results7, go_sem]) rfl ⟨rfl, (Below.refl _ _).alloc (Nat.le_refl _) _⟩

/-- One policy's argument, as it came in. -/
structure Arg (w : World) (ao : Option Addr) (n c : Nat) (Z : Nat → Int) : Prop where
  ints : IntsIn w ao n Z
  bare : ao = none → n = 0 ∧ c = 0
  range : ∀ i, -9223372036854775808 ≤ Z i ∧ Z i ≤ 9223372036854775807
theorem IntsIn.below {w w' : World} {ao : Option Addr} {n B : Nat} {Z : Nat → Int} (h : IntsIn w ao n Z) (hb : Below B w w') (hB : w.heap.size ≤ B) : IntsIn w' ao n Z := fun i hi => by
  obtain ⟨b, off, e, hc⟩ := h i hi
  exact ⟨b, off, e, (hb.cell (p := ⟨b, off + i, none⟩) (Nat.lt_of_lt_of_le (World.block_lt_of_cell? _ _ hc) hB)).trans hc⟩

set_option maxHeartbeats 1000000 in
set_option maxRecDepth 100000 in
theorem law3_main (ao co : Option Addr) (n c m mc : Nat) (Z Y : Nat → Int) (w : World) (hnm : n ≤ 65536) (hmm : m ≤ 65536) (hp : Arg w ao n c Z) (hq : Arg w co m mc Y) (htab : Tab w) :
    Calls Tryd.prog 3 #[.slice ao n c, .slice co m mc] w fun e w' => e = .returned (.bool true) ∧ Below w.heap.size w w' := by
  have H4 := bytes4 ao n c co m mc w (by omega) (by omega)
  have H5 := digit5 ao n c Z w (by omega) hp.ints
  have H5' := digit5 co m mc Y w (by omega) hq.ints
  have hq1 : decide ((65536 : Int) < (n : Int)) = false := decide_eq_false (by omega)
  have hq2 : decide ((65536 : Int) < (m : Int)) = false := decide_eq_false (by omega)
  go_enter Tryd.func3, Tryd.ntmps3
  go_wp2_with fail
  refine H4.mono ?_
  clear H4
  rintro e w ⟨⟨b4, rfl⟩, rfl⟩
  cases b4
  · go_wp2_with fail
    go_ret
    exact ⟨rfl, Below.refl _ _⟩
  go_wp2_with fail
  refine H5.mono ?_
  clear H5
  rintro e w ⟨h5, rfl⟩
  rcases h5 with rfl | ⟨rfl, hFZ⟩
  · go_wp2_with fail
    go_ret
    exact ⟨rfl, Below.refl _ _⟩
  go_wp2_with fail
  refine H5'.mono ?_
  clear H5'
  rintro e w ⟨h5, rfl⟩
  rcases h5 with rfl | ⟨rfl, hFY⟩
  · go_wp2_with fail
    go_ret
    exact ⟨rfl, Below.refl _ _⟩
  have HF : Hid (Form Z n ∧ Form Y m) := ⟨hFZ, hFY⟩
  clear hFZ hFY hq1 hq2
  go_wp2_with fail
  refine (clone6 ao n c Z w hnm hp.bare hp.ints).mono ?_
  rintro e w1 ⟨bo, rfl, hO1, hb1⟩
  go_wp2_with fail
  refine (clone6 co m mc Y w1 hmm hq.bare (hq.ints.below hb1 (Nat.le_refl _))).mono ?_
  rintro e w2 ⟨bo', rfl, hO2, hb2⟩
  have hP2 := hO1.below hb2 (Nat.le_refl _)
  have hbel2 := hb1.trans (hb2.mono hb1.size)
  have hT2 := htab.below hbel2 (Nat.le_refl _)
  have hrp := hp.range
  have hrq := hq.range
  have HR : Hid ((∀ i, -9223372036854775808 ≤ Z i ∧ Z i ≤ 9223372036854775807) ∧ (∀ i, -9223372036854775808 ≤ Y i ∧ Y i ≤ 9223372036854775807)) := ⟨hrp, hrq⟩
  clear hO1 hb1 hb2 hp hq hrp hrq htab
  go_wp2_with fail
  refine (policy7 bo n w2).mono ?_
  rintro e w3 ⟨rfl, hb3⟩
  have hP3 := hP2.below hb3 (Nat.le_refl _)
  have hQ3 := hO2.below hb3 (Nat.le_refl _)
  have hT3 := hT2.below hb3 (Nat.le_refl _)
  have hbel3 := hbel2.trans (hb3.mono hbel2.size)
  clear hP2 hO2 hT2 hbel2 hb3
  go_wp2_with fail
  refine (text8 bo n Z w3 hnm HR.out.1 hP3 hT3).mono ?_
  rintro e w4 ⟨rfl, hb4⟩
  have hP4 := hP3.below hb4 (Nat.le_refl _)
  have hQ4 := hQ3.below hb4 (Nat.le_refl _)
  have hT4 := hT3.below hb4 (Nat.le_refl _)
  have hbel4 := hbel3.trans (hb4.mono hbel3.size)
  clear hP3 hQ3 hT3 hbel3 hb4
  go_wp2_with fail
  refine (policy7 bo' m w4).mono ?_
  rintro e w5 ⟨rfl, hb5⟩
  have hP5 := hP4.below hb5 (Nat.le_refl _)
  have hQ5 := hQ4.below hb5 (Nat.le_refl _)
  have hT5 := hT4.below hb5 (Nat.le_refl _)
  have hbel5 := hbel4.trans (hb5.mono hbel4.size)
  clear hP4 hQ4 hT4 hbel4 hb5
  go_wp2_with fail
  refine (text8 bo' m Y w5 hmm HR.out.2 hQ5 hT5).mono ?_
  rintro e w6 ⟨rfl, hb6⟩
  have hP6 := hP5.below hb6 (Nat.le_refl _)
  have hQ6 := hQ5.below hb6 (Nat.le_refl _)
  have hbel6 := hbel5.trans (hb6.mono hbel5.size)
  clear hP5 hQ5 hT5 hbel5 hb6
  go_wp2_with fail
  refine (equal9 bo bo' n m Z Y w6 hnm hmm hP6 hQ6).mono ?_
  rintro e w7 ⟨h9, q9, rfl⟩
  rcases h9 with ⟨rfl, hs⟩ | ⟨rfl, hs⟩
  · have ht : text Z n = text Y m := (text_iff HF.out.1 HF.out.2).2 hs
    clear hs hP6 hQ6
    go_wp2_with fail
    go_ret
    exact ⟨rfl, below_drewN hbel6 _⟩
  · have ht : ¬ text Z n = text Y m := fun h => hs ((text_iff HF.out.1 HF.out.2).1 h)
    clear hs hP6 hQ6
    go_wp2_with fail
    go_ret
    exact ⟨ret_bool (by rw [Bool.not_eq_true', beq_eq_false_iff_ne]; exact ht), below_drewN hbel6 _⟩

set_option maxHeartbeats 400000 in
set_option maxRecDepth 100000 in
theorem law3_early (ao co : Option Addr) (n c m mc : Nat) (w : World) (hn : n ≤ 9223372036854775807) (hm : m ≤ 9223372036854775807) (h : 65536 < n ∨ 65536 < m) :
    Calls Tryd.prog 3 #[.slice ao n c, .slice co m mc] w fun e w' => e = .returned (.bool true) ∧ Below w.heap.size w w' := by
  have H4 := bytes4 ao n c co m mc w hn hm
  by_cases h1 : 65536 < n
  · have hq1 : decide ((65536 : Int) < (n : Int)) = true := decide_eq_true (by omega)
    clear h
    go_enter Tryd.func3, Tryd.ntmps3
    go_wp2_with (go_at_call 4; refine H4.mono ?_; clear H4; rintro e w ⟨⟨b4, rfl⟩, rfl⟩; cases b4)
    all_goals
      go_ret
      exact ⟨rfl, Below.refl _ _⟩
  · have hq1 : decide ((65536 : Int) < (n : Int)) = false := decide_eq_false (by omega)
    have hq2 : decide ((65536 : Int) < (m : Int)) = true := decide_eq_true (by omega)
    clear h
    go_enter Tryd.func3, Tryd.ntmps3
    go_wp2_with (go_at_call 4; refine H4.mono ?_; clear H4; rintro e w ⟨⟨b4, rfl⟩, rfl⟩; cases b4)
    all_goals
      go_ret
      exact ⟨rfl, Below.refl _ _⟩

theorem law3 (ao co : Option Addr) (n c m mc : Nat) (Z Y : Nat → Int) (w : World) (hn : n ≤ 9223372036854775807) (hm : m ≤ 9223372036854775807) (hp : Arg w ao n c Z) (hq : Arg w co m mc Y) (htab : Tab w) :
    Calls Tryd.prog 3 #[.slice ao n c, .slice co m mc] w fun e w' => e = .returned (.bool true) ∧ Below w.heap.size w w' := by
  by_cases h : 65536 < n ∨ 65536 < m
  · exact law3_early ao co n c m mc w hn hm h
  · exact law3_main ao co n c m mc Z Y w (by omega) (by omega) hp hq htab
end Go.Proofs.Qxb6605435aDoor
