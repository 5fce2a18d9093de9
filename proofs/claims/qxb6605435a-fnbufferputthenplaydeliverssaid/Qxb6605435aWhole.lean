/-
  SEAT b6605435a. THE WALK OF FnBufferPlaysWholeWindowInOrder.
-/
import Derived.Test.Qxb6605435aPlayExact
namespace Go.Proofs.Qxb6605435a
open Go.RowKit

/-- k places of the window W have been played. -/
structure WRel (S : Nat) (w0 wr : World) (B Bb N n x k : Nat) (F : Nat → Value) (pl ms : Int) : Prop where
  buf : Buf S w0 wr B Bb n (U x k) (clr F x n k) (wrap64 (pl + (cntN (winF F x n n) k : Nat))) (wrap64 (ms + ((k : Int) - (cntN (winF F x n n) k : Nat))))
  win : CRow wr N n (winF F x n n)

theorem wrel_start {S : Nat} {w0 wr : World} {B Bb N n x : Nat} {F : Nat → Value} {pl ms : Int} (hp : (Lit.int .i64 pl).wf = true) (hm : (Lit.int .i64 ms).wf = true) (h : Buf S w0 wr B Bb n (U x 0) (clr F x n 0) pl ms) (hW : CRow wr N n (winF F x n n)) :
    WRel S w0 wr B Bb N n x 0 F pl ms := by
  refine ⟨?_, hW⟩
  have e1 : wrap64 (pl + (cntN (winF F x n n) 0 : Nat)) = pl := wrap64_in hp
  have e2 : wrap64 (ms + (((0 : Nat) : Int) - (cntN (winF F x n n) 0 : Nat))) = ms := by
    have : (((0 : Nat) : Int) - (cntN (winF F x n n) 0 : Nat)) = 0 := rfl
    rw [this]
    exact wrap64_in hm
  rw [e1, e2]
  exact h
theorem cnt_nil {W : Nat → Value} {k l : Nat} (h : W k = .slice none l l) : cntN W (k + 1) = cntN W k := by
  show cntN W k + (if nilV (W k) then 0 else 1) = _
  rw [h]; rfl
theorem cnt_some {W : Nat → Value} {k l : Nat} {ad : Addr} (h : W k = .slice (some ad) l l) : cntN W (k + 1) = cntN W k + 1 := by
  show cntN W k + (if nilV (W k) then 0 else 1) = _
  rw [h]; rfl
theorem wrel_step {S : Nat} {w0 wr w5 : World} {B Bb N n x k : Nat} {F : Nat → Value} {pl ms : Int} (h : WRel S w0 wr B Bb N n x k F pl ms) (hN : N ≠ B) (hk : k < n) {ao : Option Addr} {l : Nat} (hF : F ((x + k) % n) = .slice ao l l)
    (hP : Played S w0 wr B Bb n x k F (wrap64 (pl + (cntN (winF F x n n) k : Nat))) (wrap64 (ms + ((k : Int) - (cntN (winF F x n n) k : Nat)))) ao l w5) : WRel S w0 w5 B Bb N n x (k + 1) F pl ms := by
  refine ⟨?_, h.win.rest hN hP.rest h.buf.crow.row h.buf.brow.row⟩
  have hb := hP.buf
  have hW : winF F x n n k = .slice ao l l := by rw [winF_at F x hk, hF]
  rcases ao with _ | ad
  · rw [cnt_nil hW]
    have e2 : wrap64 (wrap64 (ms + ((k : Int) - (cntN (winF F x n n) k : Nat))) + 1) = wrap64 (ms + (((k + 1 : Nat) : Int) - (cntN (winF F x n n) k : Nat))) := by
      rw [wrap64_step]
      congr 1
      omega
    rw [← e2]
    simpa [nilV] using hb
  · rw [cnt_some hW]
    have e2 : wrap64 (wrap64 (pl + (cntN (winF F x n n) k : Nat)) + 1) = wrap64 (pl + ((cntN (winF F x n n) k + 1 : Nat) : Int)) := by
      rw [wrap64_step]
      congr 1
    have e3 : (ms + (((k + 1 : Nat) : Int) - ((cntN (winF F x n n) k + 1 : Nat) : Int))) = (ms + ((k : Int) - (cntN (winF F x n n) k : Nat))) := by omega
    rw [← e2, e3]
    simpa [nilV] using hb
theorem wrel_drewN {S : Nat} {w0 wr : World} {B Bb N n x k : Nat} {F : Nat → Value} {pl ms : Int} (h : WRel S w0 wr B Bb N n x k F pl ms) (q : Nat) : WRel S w0 (wr.drewN q) B Bb N n x k F pl ms := ⟨h.buf.drewN q, h.win.drewN q⟩
theorem U_sum (x n : Nat) : IntKind.u64.wrap ((x : Int) + (n : Int)) = ((U x n : Nat) : Int) := by
  unfold U
  simp [IntKind.wrap, IntKind.signed, IntKind.bits]

set_option maxHeartbeats 1000000 in
set_option maxRecDepth 100000 in
theorem whole_main (x : Nat) (pl ms : Int) (ad : Addr) (n c : Nat) (A : Nat → Option Addr) (L C : Nat → Nat) (w : World) (hpl : (Lit.int .i64 pl).wf = true) (hms : (Lit.int .i64 ms).wf = true)
    (hn0 : 0 < n) (hx : x + (n - 1) ≤ 18446744073709551615) (hnm : n ≤ 9223372036854775807) (hA : Arg w (some ad) n c A L C) :
    Calls Try.prog 6 #[.int .u64 x, .slice (some ad) n c, .int .i64 pl, .int .i64 ms] w fun e w' => e = .returned (.bool true) ∧ Below w.heap.size w w' := by
  have H7 := bytes19 x pl ms (some ad) n c A L C w hnm hA.cells
  have H8 := tooBig 0 (some ad) n c A L C w hnm (by omega) (by omega) hA.cells
  have hq1 : ((n : Int) == 0) = false := by rw [beq_eq_false_iff_ne]; omega
  have hq2 : decide ((18446744073709551615 : Int) - (x : Int) < (n : Int) - 1) = false := decide_eq_false (by omega)
  have HP : Hid ((Lit.int .i64 pl).wf = true) := hpl
  have HM : Hid ((Lit.int .i64 ms).wf = true) := hms
  clear hpl hms
  go_enter Try.func6, Try.ntmps6
  go_wp2_with (first | (go_at_call 19; refine H7.mono ?_; clear H7; rintro e w ⟨⟨b7, rfl⟩, rfl⟩; cases b7) | (go_at_call 8; refine H8.mono ?_; clear H8; rintro e w ⟨h8, rfl⟩; rcases h8 with rfl | ⟨rfl, hn, hm, hL⟩))
  · go_ret
    exact ⟨rfl, Below.refl _ _⟩
  · go_ret
    exact ⟨rfl, Below.refl _ _⟩
  refine (cloneCells ad n c A L C _ hn hL hA).mono ?_
  rintro e w2 ⟨F, rfl, hF, hb2⟩
  clear hA hL hm
  go_wp2_with fail
  refine (window x w.heap.size n F w2 (by omega) hn0 hn hF).mono ?_
  rintro e w3 ⟨rfl, hW3, hb3⟩
  have hF3 := hF.below hb3
  have hbel3 := hb2.trans (hb3.mono hb2.size)
  have hN : w.heap.size < w2.heap.size := hF.row.lt
  clear hF hb2 hb3
  go_wp2_with fail
  refine (newBuffer _ _ _ _ _ _ _).mono ?_
  rintro e w4 ⟨rfl, hw4⟩
  have hR4 : WRel w.heap.size w w4 w.heap.size w3.heap.size w2.heap.size n x 0 F pl ms := by
    rw [hw4]; exact wrel_start HP.out HM.out (buf_new (by omega) hbel3 (Nat.le_refl _) hbel3.size hF3) (hW3.alloc _)
  clear hw4 hW3 hF3 hbel3 HP HM
  go_wp2_with fail
  have hxn : x + (n - 1) ≤ 18446744073709551615 := hx
  go_loopw [12, 13, 14] (fun t i _ wq => ∃ k : Nat, k ≤ n ∧ i = .int .i64 k ∧ t = .int .i64 (cntN (winF F x n n) k : Nat) ∧ WRel w.heap.size w wq w.heap.size w3.heap.size w2.heap.size n x k F pl ms) (fun _ i _ _ => n - (intOf i).toNat)
  case atStart => exact ⟨0, Nat.zero_le _, rfl, rfl, hR4⟩
  case round =>
    obtain ⟨k, hk, rfl, rfl, hR⟩ := hrel
    by_cases hlt : k < n
    · obtain ⟨ao, l, _, hFk, _⟩ := hR.win.cell hlt
      have hFk' := hFk
      rw [winF_at F x hlt] at hFk'
      have hplay := play w.heap.size w wr w.heap.size w3.heap.size n x k F _ _ hn hlt (by omega) hR.buf ao l hFk'
      have hcn := cntN_le (winF F x n n) k
      clear hR4
      go_wp2_with fail
      refine hplay.mono ?_
      clear hplay
      rintro e w5 ⟨rfl, hP⟩
      have hR5 := wrel_step hR (by omega) hlt hFk' hP
      have hown := hP.own
      have hc5 := hR5.win.row.cell hlt
      rw [hFk] at hc5
      clear hP hR hFk'
      go_wp2_with fail
      refine (bytesEq ao l w5 hown).mono ?_
      rintro e w6 ⟨rfl, q6, rfl⟩
      rcases ao with _ | ad'
      · have HR : Hid (WRel w.heap.size w (w5.drewN q6) w.heap.size w3.heap.size w2.heap.size n x (k + 1) F pl ms ∧ cntN (winF F x n n) (k + 1) = cntN (winF F x n n) k) := ⟨wrel_drewN hR5 q6, cnt_nil hFk⟩
        clear hR5 hown hFk
        go_wp2_with fail
        go_roundw
        case rel => exact ⟨k + 1, by omega, by go_num, by rw [HR.out.2], HR.out.1⟩
        case measure => simp [intOf]; omega
      · have HR : Hid (WRel w.heap.size w (w5.drewN q6) w.heap.size w3.heap.size w2.heap.size n x (k + 1) F pl ms ∧ cntN (winF F x n n) (k + 1) = cntN (winF F x n n) k + 1) := ⟨wrel_drewN hR5 q6, cnt_some hFk⟩
        clear hR5 hown hFk
        go_wp2_with fail
        go_roundw
        case rel => exact ⟨k + 1, by omega, by go_num, by rw [HR.out.2]; go_num, HR.out.1⟩
        case measure => simp [intOf]; omega
    · obtain rfl : n = k := by omega
      have hU := U_sum x n
      have hcn := cntN_le (winF F x n n) n
      have hbr := hR.buf.brow
      have hcr := hR.buf.crow.row
      have hbel := hR.buf.below
      clear hR4 hR
      go_wp2_with fail
      refine (bufState _ _ _ _ _ _ _ wr hbr).mono ?_
      rintro e w7 ⟨rfl, q7, rfl⟩
      clear hbr
      go_wp2_with fail
      go_loop [19] (fun i => ∃ k : Nat, k ≤ n ∧ i = .int .i64 k) (fun i => n - (intOf i).toNat)
      case atStart => exact ⟨0, Nat.zero_le _, rfl⟩
      case round =>
        obtain ⟨k, hk, rfl⟩ := hrel
        by_cases hlt : k < n
        · have hc := hcr.cell hlt
          rw [clr_all F hlt] at hc
          clear hcr hbel
          go_wp2_with fail
          go_round
          case rel => exact ⟨k + 1, by omega, by go_num⟩
          case measure => simp [intOf]; omega
        · clear hcr
          go_wp2_with fail
          go_ret
          exact ⟨rfl, ⟨hbel.os, hbel.tape, hbel.output, hbel.size, hbel.block⟩⟩

set_option maxHeartbeats 400000 in
set_option maxRecDepth 100000 in
theorem whole_early (x : Nat) (pl ms : Int) (ao : Option Addr) (n c : Nat) (A : Nat → Option Addr) (L C : Nat → Nat) (w : World) (hx : x ≤ 18446744073709551615)
    (hnm : n ≤ 9223372036854775807) (hA : Arg w ao n c A L C) (h : n = 0 ∨ 18446744073709551615 < x + (n - 1)) :
    Calls Try.prog 6 #[.int .u64 x, .slice ao n c, .int .i64 pl, .int .i64 ms] w fun e w' => e = .returned (.bool true) ∧ Below w.heap.size w w' := by
  have H7 := bytes19 x pl ms ao n c A L C w hnm hA.cells
  have H8 := tooBig 0 ao n c A L C w hnm (by omega) (by omega) hA.cells
  by_cases hz : n = 0
  · have hq1 : ((n : Int) == 0) = true := by rw [beq_iff_eq]; omega
    clear h hz
    go_enter Try.func6, Try.ntmps6
    go_wp2_with (first | (go_at_call 19; refine H7.mono ?_; clear H7; rintro e w ⟨⟨b7, rfl⟩, rfl⟩; cases b7) | (go_at_call 8; refine H8.mono ?_; clear H8; rintro e w ⟨h8, rfl⟩; rcases h8 with rfl | ⟨rfl, hn, hm, hL⟩))
    all_goals
      go_ret
      exact ⟨rfl, Below.refl _ _⟩
  · have hq1 : ((n : Int) == 0) = false := by rw [beq_eq_false_iff_ne]; omega
    have hn1 : 1 ≤ n := by omega
    have hq2 : decide ((18446744073709551615 : Int) - (x : Int) < (n : Int) - 1) = true := decide_eq_true (by omega)
    clear h hz
    go_enter Try.func6, Try.ntmps6
    go_wp2_with (first | (go_at_call 19; refine H7.mono ?_; clear H7; rintro e w ⟨⟨b7, rfl⟩, rfl⟩; cases b7) | (go_at_call 8; refine H8.mono ?_; clear H8; rintro e w ⟨h8, rfl⟩; rcases h8 with rfl | ⟨rfl, hn, hm, hL⟩))
    all_goals
      go_ret
      exact ⟨rfl, Below.refl _ _⟩

theorem whole (x : Nat) (pl ms : Int) (ao : Option Addr) (n c : Nat) (A : Nat → Option Addr) (L C : Nat → Nat) (w : World) (hx : x ≤ 18446744073709551615) (hp : (Lit.int .i64 pl).wf = true) (hm : (Lit.int .i64 ms).wf = true)
    (hnm : n ≤ 9223372036854775807) (hA : Arg w ao n c A L C) :
    Calls Try.prog 6 #[.int .u64 x, .slice ao n c, .int .i64 pl, .int .i64 ms] w fun e w' => e = .returned (.bool true) ∧ Below w.heap.size w w' := by
  by_cases h : n = 0 ∨ 18446744073709551615 < x + (n - 1)
  · exact whole_early x pl ms ao n c A L C w hx hnm hA h
  · rcases ao with _ | ad
    · exact absurd (hA.bare rfl).1 (by omega)
    · exact whole_main x pl ms ad n c A L C w hp hm (by omega) (by omega) hnm hA
end Go.Proofs.Qxb6605435a
