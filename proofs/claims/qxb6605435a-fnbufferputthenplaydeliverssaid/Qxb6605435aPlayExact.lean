/-
  SEAT b6605435a. THE WALK OF FnBufferPlayExact.
-/
import Derived.Test.Qxb6605435aState
namespace Go.Proofs.Qxb6605435a
open Go.RowKit

/-- The buffer just made. -/
theorem buf_new {w0 w : World} {S B n x : Nat} {F : Nat → Value} {p m : Int} (hx : x ≤ 18446744073709551615) (hb : Below S w0 w) (hS : S ≤ B) (hSw : S ≤ w.heap.size) (hC : CRow w B n F) :
    Buf S w0 (w.alloc (.cells #[.int .u64 x, .slice (some ⟨B, 0, none⟩) n n, .int .i64 p, .int .i64 m] 40)) B w.heap.size n (U x 0) (clr F x n 0) p m := by
  rw [U_zero hx, clr_zero]
  exact ⟨hb.alloc hSw _, hS, hSw, hC.alloc _, BRow.new _ _ _ _ _ _ _⟩
theorem winF_at (F : Nat → Value) (x : Nat) {n i : Nat} (hi : i < n) : winF F x n n i = F ((x + i) % n) := by unfold winF; rw [if_pos hi]

/-- Draws alone lie between the two worlds. -/
def Dr (w w' : World) : Prop := ∃ q, w' = w.drewN q
theorem Dr.refl (w : World) : Dr w w := ⟨0, rfl⟩
theorem Dr.drewN {w w' : World} (h : Dr w w') (n : Nat) : Dr w (w'.drewN n) := by
  obtain ⟨q, rfl⟩ := h
  exact ⟨q + n, by rw [World.drewN_drewN]⟩
theorem Dr.cell {w w' : World} (h : Dr w w') (a : Addr) : w'.cell? a = w.cell? a := by
  obtain ⟨q, rfl⟩ := h
  rfl
theorem Own.dr {w w' : World} {ao : Option Addr} {l : Nat} (h : Own w ao l) (hd : Dr w w') : Own w' ao l := by
  obtain ⟨q, rfl⟩ := hd
  exact h.drewN q
theorem Below.dr {B : Nat} {w0 w w' : World} (h : Below B w0 w) (hd : Dr w w') : Below B w0 w' := by
  obtain ⟨q, rfl⟩ := hd
  exact ⟨h.os, h.tape, h.output, h.size, h.block⟩
theorem wrap_step {k : Nat} (hk : k ≤ 65536) : IntKind.i64.wrap ((k : Int) + 1) = (k : Int) + 1 := by
  simp [IntKind.wrap, IntKind.signed, IntKind.bits]
  omega
theorem next_win (F : Nat → Value) {x n k : Nat} (hk : k + 1 < n) : winF (clr F x n 1) (x + 1) n n k = winF F x n n (k + 1) := by
  rw [winF_at _ _ (by omega), winF_at _ _ hk, show x + 1 + k = x + (k + 1) by omega]
  unfold clr
  rw [age_slot hk, if_neg (by omega)]
theorem last_win (F : Nat → Value) {x k : Nat} : winF (clr F x (k + 1) 1) (x + 1) (k + 1) (k + 1) k = .slice none 0 0 := by
  rw [winF_at _ _ (by omega), show x + 1 + k = (x + 0) + (k + 1) by omega, Nat.add_mod_right]
  unfold clr
  rw [age_slot (by omega), if_pos (by omega)]

set_option maxHeartbeats 1000000 in
set_option maxRecDepth 100000 in
theorem playExact_main (x : Nat) (pl ms : Int) (ad : Addr) (n c : Nat) (A : Nat → Option Addr) (L C : Nat → Nat) (w : World)
    (hx : x < 18446744073709551615) (hn0 : 0 < n) (hnm : n ≤ 9223372036854775807) (hA : Arg w (some ad) n c A L C) :
    Calls Try.prog 5 #[.int .u64 x, .slice (some ad) n c, .int .i64 pl, .int .i64 ms] w fun e w' => e = .returned (.bool true) ∧ Below w.heap.size w w' := by
  have H7 := bytes18 x pl ms (some ad) n c A L C w hnm hA.cells
  have H8 := tooBig 0 (some ad) n c A L C w hnm (by omega) (by omega) hA.cells
  have hq1 : ((n : Int) == 0) = false := by rw [beq_eq_false_iff_ne]; omega
  have hq2 : ((x : Int) == 18446744073709551615) = false := by rw [beq_eq_false_iff_ne]; omega
  go_enter Try.func5, Try.ntmps5
  go_wp2_with (first | (go_at_call 18; refine H7.mono ?_; clear H7; rintro e w ⟨⟨b7, rfl⟩, rfl⟩; cases b7) | (go_at_call 8; refine H8.mono ?_; clear H8; rintro e w ⟨h8, rfl⟩; rcases h8 with rfl | ⟨rfl, hn, hm, hL⟩))
  · go_ret
    exact ⟨rfl, Below.refl _ _⟩
  · go_ret
    exact ⟨rfl, Below.refl _ _⟩
  refine (cloneCells ad n c A L C _ hn hL hA).mono ?_
  rintro e w2 ⟨F, rfl, hF, hb2⟩
  clear hA hL hm
  go_wp2_with fail
  refine (window x w.heap.size n F w2 (by omega) hn0 hn hF).mono ?_
  rintro e w3 ⟨rfl, hW3, hb3⟩
  have hF3 := hF.below hb3
  have hbel3 := hb2.trans (hb3.mono hb2.size)
  have hN : w.heap.size < w2.heap.size := hF.row.lt
  clear hF hb2 hb3
  go_wp2_with fail
  refine (newBuffer _ _ _ _ _ _ _).mono ?_
  rintro e w4 ⟨rfl, hw4⟩
  have hBuf : Buf w.heap.size w w4 w.heap.size w3.heap.size n (U x 0) (clr F x n 0) pl ms := by rw [hw4]; exact buf_new (by omega) hbel3 (Nat.le_refl _) hbel3.size hF3
  have hW4 : CRow w4 w2.heap.size n (winF F x n n) := by rw [hw4]; exact hW3.alloc _
  obtain ⟨ao, l, _, hF0, _⟩ := hF3.cell (Nat.mod_lt (x + 0) hn0)
  clear hw4 hW3 hF3 hbel3
  go_wp2_with fail
  refine (play w.heap.size w w4 w.heap.size w3.heap.size n x 0 F pl ms hn hn0 (by omega) hBuf ao l hF0).mono ?_
  rintro e w5 ⟨rfl, hP⟩
  have hW5 := hW4.rest (by omega) hP.rest hBuf.crow.row hBuf.brow.row
  have hbr := hP.buf.brow
  rw [U_in (by omega)] at hbr
  have hown := hP.own
  have hcr := hP.buf.crow
  have hbel5 := hP.buf.below
  have hc0 : w5.cell? ⟨w2.heap.size, 0, none⟩ = some (.slice ao l l) := by rw [hW5.row.cell hn0, winF_at F x hn0, hF0]
  clear hP hW4 hBuf
  have hixI : (0 : Int) < (n : Int) := by omega
  have hnil := fun (a : Option Addr) (n c : Nat) (w : World) => Lib.run_eql_slice_nil (P := Try.prog) w 24 5 a n c 0 0 Try.underlying24
  rcases ao with _ | ad'
  · have hbr : BRow w5 w3.heap.size ((x : Int) + 1) (some ⟨w.heap.size, 0, none⟩) n n pl (wrap64 (ms + 1)) := by simpa [nilV] using hbr
    go_wp2_with fail
    refine (bufState _ _ _ _ _ _ _ w5 hbr).mono ?_
    rintro e w6 ⟨rfl, q6, rfl⟩
    clear hbr
    go_wp2_with fail
    refine (bytesEq _ l _ (hown.drewN q6)).mono ?_
    rintro e w7 ⟨rfl, q7, rfl⟩
    go_wp2_with fail
    have HW := window (x + 1) w.heap.size n (clr F x n 1) (w5.drewN (q6 + q7)) (by omega) hn0 hn (hcr.drewN _)
    rw [show (((x + 1 : Nat)) : Int) = (x : Int) + 1 from by omega] at HW
    refine HW.mono ?_
    clear HW
    rintro e w8 ⟨rfl, hV8, hb8⟩
    have hV8 : CRow w8 w5.heap.size n (winF (clr F x n 1) (x + 1) n n) := hV8
    have hW8 : CRow w8 w2.heap.size n (winF F x n n) := (hW5.drewN (q6 + q7)).below hb8
    have hbel8 : Below w.heap.size w w8 := (show Below w.heap.size w (w5.drewN (q6 + q7)) from ⟨hbel5.os, hbel5.tape, hbel5.output, hbel5.size, hbel5.block⟩).trans (hb8.mono hbel5.size)
    clear hcr hown hc0 hW5 hb8 hbel5
    go_wp2_with fail
    go_loopw [18] (fun i wq => ∃ k : Nat, k + 1 ≤ n ∧ i = .int .i64 k ∧ Dr w8 wq) (fun i _ => n - (intOf i).toNat)
    case atStart => exact ⟨0, hn0, rfl, Dr.refl _⟩
    case round =>
      obtain ⟨k, hk, rfl, hdr⟩ := hrel
      by_cases hlt : k + 1 < n
      · obtain ⟨a1, l1, hc1, hF1, hown1⟩ := hW8.cell hlt
        have hc2 := hV8.row.cell (i := k) (by omega)
        rw [next_win F hlt, hF1, ← hdr.cell] at hc2
        rw [← hdr.cell] at hc1
        have hown1 := hown1.dr hdr
        have HD : Hid (Dr w8 wr) := hdr
        clear hdr
        have hI1 : (k : Int) < (n : Int) := by omega
        have hI2 : (k : Int) + 1 < (n : Int) := by omega
        have hI0 : (0 : Int) ≤ (k : Int) + 1 := by omega
        have hw1 := wrap_step (k := k) (by omega)
        clear hF1 hV8 hW8 hbel8 hnil
        go_wp2_with fail
        go_quiet ((go_at_call 14; refine Calls.quiet_of (bytesEq a1 l1 _ ?_); exact hown1.drewN _))
        go_wp2_with fail
        go_roundw
        case rel => exact ⟨k + 1, by omega, by go_num, HD.out.drewN _⟩
        case measure => simp [intOf]; omega
      · obtain rfl : n = k + 1 := by omega
        have hc2 := hV8.row.cell (i := k) (by omega)
        rw [last_win F, ← hdr.cell] at hc2
        have hbel9 := Below.dr hbel8 hdr
        clear hdr hbel8
        clear hV8 hW8
        go_wp2_with fail
        go_ret
        exact ⟨rfl, hbel9⟩
  · have hbr : BRow w5 w3.heap.size ((x : Int) + 1) (some ⟨w.heap.size, 0, none⟩) n n (wrap64 (pl + 1)) ms := by simpa [nilV] using hbr
    go_wp2_with fail
    refine (bufState _ _ _ _ _ _ _ w5 hbr).mono ?_
    rintro e w6 ⟨rfl, q6, rfl⟩
    clear hbr
    go_wp2_with fail
    refine (bytesEq _ l _ (hown.drewN q6)).mono ?_
    rintro e w7 ⟨rfl, q7, rfl⟩
    go_wp2_with fail
    have HW := window (x + 1) w.heap.size n (clr F x n 1) (w5.drewN (q6 + q7)) (by omega) hn0 hn (hcr.drewN _)
    rw [show (((x + 1 : Nat)) : Int) = (x : Int) + 1 from by omega] at HW
    refine HW.mono ?_
    clear HW
    rintro e w8 ⟨rfl, hV8, hb8⟩
    have hV8 : CRow w8 w5.heap.size n (winF (clr F x n 1) (x + 1) n n) := hV8
    have hW8 : CRow w8 w2.heap.size n (winF F x n n) := (hW5.drewN (q6 + q7)).below hb8
    have hbel8 : Below w.heap.size w w8 := (show Below w.heap.size w (w5.drewN (q6 + q7)) from ⟨hbel5.os, hbel5.tape, hbel5.output, hbel5.size, hbel5.block⟩).trans (hb8.mono hbel5.size)
    clear hcr hown hc0 hW5 hb8 hbel5
    go_wp2_with fail
    go_loopw [18] (fun i wq => ∃ k : Nat, k + 1 ≤ n ∧ i = .int .i64 k ∧ Dr w8 wq) (fun i _ => n - (intOf i).toNat)
    case atStart => exact ⟨0, hn0, rfl, Dr.refl _⟩
    case round =>
      obtain ⟨k, hk, rfl, hdr⟩ := hrel
      by_cases hlt : k + 1 < n
      · obtain ⟨a1, l1, hc1, hF1, hown1⟩ := hW8.cell hlt
        have hc2 := hV8.row.cell (i := k) (by omega)
        rw [next_win F hlt, hF1, ← hdr.cell] at hc2
        rw [← hdr.cell] at hc1
        have hown1 := hown1.dr hdr
        have HD : Hid (Dr w8 wr) := hdr
        clear hdr
        have hI1 : (k : Int) < (n : Int) := by omega
        have hI2 : (k : Int) + 1 < (n : Int) := by omega
        have hI0 : (0 : Int) ≤ (k : Int) + 1 := by omega
        have hw1 := wrap_step (k := k) (by omega)
        clear hF1 hV8 hW8 hbel8 hnil
        go_wp2_with fail
        go_quiet ((go_at_call 14; refine Calls.quiet_of (bytesEq a1 l1 _ ?_); exact hown1.drewN _))
        go_wp2_with fail
        go_roundw
        case rel => exact ⟨k + 1, by omega, by go_num, HD.out.drewN _⟩
        case measure => simp [intOf]; omega
      · obtain rfl : n = k + 1 := by omega
        have hc2 := hV8.row.cell (i := k) (by omega)
        rw [last_win F, ← hdr.cell] at hc2
        have hbel9 := Below.dr hbel8 hdr
        clear hdr hbel8
        clear hV8 hW8
        go_wp2_with fail
        go_ret
        exact ⟨rfl, hbel9⟩

set_option maxHeartbeats 400000 in
set_option maxRecDepth 100000 in
theorem playExact_early (x : Nat) (pl ms : Int) (ao : Option Addr) (n c : Nat) (A : Nat → Option Addr) (L C : Nat → Nat) (w : World)
    (hnm : n ≤ 9223372036854775807) (hA : Arg w ao n c A L C) (h : n = 0 ∨ x = 18446744073709551615) :
    Calls Try.prog 5 #[.int .u64 x, .slice ao n c, .int .i64 pl, .int .i64 ms] w fun e w' => e = .returned (.bool true) ∧ Below w.heap.size w w' := by
  have H7 := bytes18 x pl ms ao n c A L C w hnm hA.cells
  have H8 := tooBig 0 ao n c A L C w hnm (by omega) (by omega) hA.cells
  by_cases hz : n = 0
  · have hq1 : ((n : Int) == 0) = true := by rw [beq_iff_eq]; omega
    clear h hz
    go_enter Try.func5, Try.ntmps5
    go_wp2_with (first | (go_at_call 18; refine H7.mono ?_; clear H7; rintro e w ⟨⟨b7, rfl⟩, rfl⟩; cases b7) | (go_at_call 8; refine H8.mono ?_; clear H8; rintro e w ⟨h8, rfl⟩; rcases h8 with rfl | ⟨rfl, hn, hm, hL⟩))
    all_goals
      go_ret
      exact ⟨rfl, Below.refl _ _⟩
  · have hq1 : ((n : Int) == 0) = false := by rw [beq_eq_false_iff_ne]; omega
    have hq2 : ((x : Int) == 18446744073709551615) = true := by rw [beq_iff_eq]; omega
    clear h hz
    go_enter Try.func5, Try.ntmps5
    go_wp2_with (first | (go_at_call 18; refine H7.mono ?_; clear H7; rintro e w ⟨⟨b7, rfl⟩, rfl⟩; cases b7) | (go_at_call 8; refine H8.mono ?_; clear H8; rintro e w ⟨h8, rfl⟩; rcases h8 with rfl | ⟨rfl, hn, hm, hL⟩))
    all_goals
      go_ret
      exact ⟨rfl, Below.refl _ _⟩

theorem playExact (x : Nat) (pl ms : Int) (ao : Option Addr) (n c : Nat) (A : Nat → Option Addr) (L C : Nat → Nat) (w : World) (hx : x ≤ 18446744073709551615) (_hp : (Lit.int .i64 pl).wf = true) (_hm : (Lit.int .i64 ms).wf = true)
    (hnm : n ≤ 9223372036854775807) (hA : Arg w ao n c A L C) :
    Calls Try.prog 5 #[.int .u64 x, .slice ao n c, .int .i64 pl, .int .i64 ms] w fun e w' => e = .returned (.bool true) ∧ Below w.heap.size w w' := by
  by_cases h : n = 0 ∨ x = 18446744073709551615
  · exact playExact_early x pl ms ao n c A L C w hnm hA h
  · rcases ao with _ | ad
    · exact absurd (hA.bare rfl).1 (by omega)
    · exact playExact_main x pl ms ad n c A L C w (by omega) (by omega) hnm hA
end Go.Proofs.Qxb6605435a
