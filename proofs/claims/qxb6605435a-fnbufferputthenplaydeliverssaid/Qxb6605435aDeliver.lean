/-
  SEAT b6605435a. THE WALK OF FnBufferPutThenPlayDelivers.
-/
import Derived.Test.Qxb6605435aWhole
namespace Go.Proofs.Qxb6605435a
open Go.RowKit

/-- The cells with one of them put. -/
def putF (F : Nat → Value) (s : Nat) (v : Value) : Nat → Value := fun j => if j = s then v else F j
theorem putF_at (F : Nat → Value) (s : Nat) (v : Value) : putF F s v s = v := if_pos rfl
theorem putF_before (F : Nat → Value) {x d n k : Nat} (v : Value) (hd : d < n) (hk : k < d) : putF F ((x + d) % n) v ((x + k) % n) = F ((x + k) % n) := by
  unfold putF
  rw [if_neg]
  intro e
  have := age_slot (x := x) (i := k) (n := n) (by omega)
  rw [e, age_slot hd] at this
  omega

/-- k places have been played; the buffer's cells began as F, the window's list was made of G. -/
structure DRel (S : Nat) (w0 wr : World) (B Bb N n x k : Nat) (F G : Nat → Value) (pl ms : Int) : Prop where
  buf : Buf S w0 wr B Bb n (U x k) (clr F x n k) (wrap64 (pl + (cntN (winF F x n n) k : Nat))) (wrap64 (ms + ((k : Int) - (cntN (winF F x n n) k : Nat))))
  win : CRow wr N n (winF G x n n)
theorem drel_start {S : Nat} {w0 wr : World} {B Bb N n x : Nat} {F G : Nat → Value} {pl ms : Int} (hp : (Lit.int .i64 pl).wf = true) (hm : (Lit.int .i64 ms).wf = true) (h : Buf S w0 wr B Bb n (U x 0) (clr F x n 0) pl ms) (hW : CRow wr N n (winF G x n n)) :
    DRel S w0 wr B Bb N n x 0 F G pl ms := by
  refine ⟨?_, hW⟩
  have e1 : wrap64 (pl + (cntN (winF F x n n) 0 : Nat)) = pl := wrap64_in hp
  have e2 : wrap64 (ms + (((0 : Nat) : Int) - (cntN (winF F x n n) 0 : Nat))) = ms := by
    have : (((0 : Nat) : Int) - (cntN (winF F x n n) 0 : Nat)) = 0 := rfl
    rw [this]
    exact wrap64_in hm
  rw [e1, e2]
  exact h
theorem drel_step {S : Nat} {w0 wr w5 : World} {B Bb N n x k : Nat} {F G : Nat → Value} {pl ms : Int} (h : DRel S w0 wr B Bb N n x k F G pl ms) (hN : N ≠ B) (hk : k < n) {ao : Option Addr} {l : Nat} (hF : F ((x + k) % n) = .slice ao l l)
    (hP : Played S w0 wr B Bb n x k F (wrap64 (pl + (cntN (winF F x n n) k : Nat))) (wrap64 (ms + ((k : Int) - (cntN (winF F x n n) k : Nat)))) ao l w5) : DRel S w0 w5 B Bb N n x (k + 1) F G pl ms := by
  refine ⟨?_, h.win.rest hN hP.rest h.buf.crow.row h.buf.brow.row⟩
  have hb := hP.buf
  have hW : winF F x n n k = .slice ao l l := by rw [winF_at F x hk, hF]
  rcases ao with _ | ad
  · rw [cnt_nil hW]
    have e2 : wrap64 (wrap64 (ms + ((k : Int) - (cntN (winF F x n n) k : Nat))) + 1) = wrap64 (ms + (((k + 1 : Nat) : Int) - (cntN (winF F x n n) k : Nat))) := by
      rw [wrap64_step]
      congr 1
      omega
    rw [← e2]
    simpa [nilV] using hb
  · rw [cnt_some hW]
    have e2 : wrap64 (wrap64 (pl + (cntN (winF F x n n) k : Nat)) + 1) = wrap64 (pl + ((cntN (winF F x n n) k + 1 : Nat) : Int)) := by
      rw [wrap64_step]
      congr 1
    have e3 : (ms + (((k + 1 : Nat) : Int) - ((cntN (winF F x n n) k + 1 : Nat) : Int))) = (ms + ((k : Int) - (cntN (winF F x n n) k : Nat))) := by omega
    rw [← e2, e3]
    simpa [nilV] using hb
theorem drel_drewN {S : Nat} {w0 wr : World} {B Bb N n x k : Nat} {F G : Nat → Value} {pl ms : Int} (h : DRel S w0 wr B Bb N n x k F G pl ms) (q : Nat) : DRel S w0 (wr.drewN q) B Bb N n x k F G pl ms := ⟨h.buf.drewN q, h.win.drewN q⟩

theorem ms_eq {x ix : Nat} (h : x ≤ ix) (ms c : Int) : (wrap64 (ms + (((ix - x : Nat) : Int) + 1 - c)) == wrap64 (ms + ((ix : Int) - (x : Int) + 1 - c))) = true := by
  rw [show ((ix - x : Nat) : Int) = (ix : Int) - (x : Int) from by omega]
  simp
theorem U_last {x ix : Nat} (h : x ≤ ix) : IntKind.u64.wrap ((x : Int) + ((ix : Int) - (x : Int) + 1)) = ((U x (ix - x + 1) : Nat) : Int) := by
  unfold U
  simp [IntKind.wrap, IntKind.signed, IntKind.bits]
  omega

set_option maxHeartbeats 2000000 in
set_option maxRecDepth 100000 in
theorem deliver_main (x ix : Nat) (pl ms : Int) (ad : Addr) (n c : Nat) (cad : Addr) (m mc : Nat) (A : Nat → Option Addr) (L C : Nat → Nat) (w : World) (hpl : (Lit.int .i64 pl).wf = true) (hms : (Lit.int .i64 ms).wf = true)
    (hix : ix ≤ 18446744073709551615) (hn0 : 0 < n) (hx : x + (n - 1) ≤ 18446744073709551615) (hxi : x ≤ ix) (hid : ix - x < n) (hnm : n ≤ 9223372036854775807) (hmm : m ≤ 9223372036854775807)
    (hA : Arg w (some ad) n c A L C) (hcB : BytesIn w (some cad) m) :
    Calls Try.prog 4 #[.int .u64 x, .slice (some ad) n c, .int .i64 pl, .int .i64 ms, .int .u64 ix, .slice (some cad) m mc] w fun e w' => e = .returned (.bool true) ∧ Below w.heap.size w w' := by
  have H7 := bytes15 x pl ms ix (some ad) n c (some cad) m mc A L C w hnm hmm hA.cells
  have H8 := tooBig m (some ad) n c A L C w hnm (by omega) (by omega) hA.cells
  have hq1 : ((n : Int) == 0) = false := by rw [beq_eq_false_iff_ne]; omega
  have hq2 : decide ((18446744073709551615 : Int) - (x : Int) < (n : Int) - 1) = false := decide_eq_false (by omega)
  have hq3 : decide ((ix : Int) < (x : Int)) = false := decide_eq_false (by omega)
  have hq4 : decide ((n : Int) ≤ (ix : Int) - (x : Int)) = false := decide_eq_false (by omega)
  have hnil := fun (a : Option Addr) (n c : Nat) (w : World) => Lib.run_eql_slice_nil (P := Try.prog) w 24 5 a n c 0 0 Try.underlying24
  have HP : Hid ((Lit.int .i64 pl).wf = true) := hpl
  have HM : Hid ((Lit.int .i64 ms).wf = true) := hms
  clear hpl hms
  go_enter Try.func4, Try.ntmps4
  go_wp2_with (first | (go_at_call 15; refine H7.mono ?_; clear H7; rintro e w ⟨⟨b7, rfl⟩, rfl⟩; cases b7) | (go_at_call 8; refine H8.mono ?_; clear H8; rintro e w ⟨h8, rfl⟩; rcases h8 with rfl | ⟨rfl, hn, hm, hL⟩))
  · go_ret
    exact ⟨rfl, Below.refl _ _⟩
  · go_ret
    exact ⟨rfl, Below.refl _ _⟩
  refine (cloneCells ad n c A L C _ hn hL hA).mono ?_
  rintro e w2 ⟨F, rfl, hF, hb2⟩
  go_wp2_with fail
  refine (cloneBytes (some cad) m mc w2 (by omega) (fun e => by cases e) (hcB.below hb2 (Nat.le_refl _))).mono ?_
  rintro e w3 ⟨k0, k1, rfl, hown, hb3⟩
  have hF3 := hF.below hb3
  have hbel3 := hb2.trans (hb3.mono hb2.size)
  have hN : w.heap.size < w3.heap.size := hF3.row.lt
  clear hF hb2 hb3 hA hcB hL hm hmm hnm
  go_wp2_with fail
  refine (window x w.heap.size n F w3 (by omega) hn0 hn hF3).mono ?_
  rintro e w4 ⟨rfl, hW4, hb4⟩
  have hF4 := hF3.below hb4
  have hown4 := hown.below hb4 (Nat.le_refl _)
  have hbel4 := hbel3.trans (hb4.mono hbel3.size)
  clear hF3 hown hbel3 hb4
  obtain ⟨ao, l, hcd, hWd, hownd⟩ := hW4.cell hid
  rw [winF_at F x hid, show x + (ix - x) = ix by omega] at hWd
  have hsl : ix % n < n := Nat.mod_lt _ hn0
  have hin : inW x ix n = true := by unfold inW; exact decide_eq_true (by omega)
  have HFd : Hid (F (ix % n) = .slice ao l l) := hWd
  clear hWd
  rcases ao with _ | ad'
  · have hl : l = 0 := by
      rcases hownd with ⟨_, h0⟩ | ⟨g, Z, h0, _⟩
      · exact h0
      · cases h0
    subst hl
    clear hownd
    go_wp2_with fail
    refine (newBuffer _ _ _ _ _ _ _).mono ?_
    rintro e w5 ⟨rfl, hw5⟩
    have hB5 : Buf w.heap.size w w5 w.heap.size w4.heap.size n (U x 0) (clr F x n 0) pl ms := by rw [hw5]; exact buf_new (by omega) hbel4 (Nat.le_refl _) hbel4.size hF4
    have hW5 : CRow w5 w3.heap.size n (winF F x n n) := by rw [hw5]; exact hW4.alloc _
    have hown5 : Own w5 k0 k1 := by rw [hw5]; exact hown4.alloc _
    clear hw5 hF4 hown4 hbel4 hW4 hcd
    have hbr5 := hB5.brow
    rw [U_zero (by omega)] at hbr5
    have hcr5 := hB5.crow
    rw [clr_zero] at hcr5
    go_wp2_with fail
    have hcP : w5.cell? ⟨w.heap.size, ix % n, none⟩ = some (.slice none 0 0) := by rw [hcr5.row.cell hsl, HFd.out]
    refine (put_take w4.heap.size x ix w.heap.size n pl ms k0 k1 w5 (by omega) hix hn hn0 hbr5 hin hcP (hcr5.row.frozen _)).mono ?_
    rintro e w6 ⟨rfl, q, hw6⟩
    have hB6 : Buf w.heap.size w w6 w.heap.size w4.heap.size n (U x 0) (clr (putF F (ix % n) (.slice k0 k1 k1)) x n 0) pl ms := by
      rw [hw6, clr_zero, U_zero (by omega)]
      refine Buf.drewN ⟨hB5.below.setCell (Nat.le_refl _) _, Nat.le_refl _, hB5.hBb, hcr5.set _ ⟨k0, k1, rfl, hown5⟩, ?_⟩ q
      exact hbr5.of_block (Below.heap_setCell _ _ _ _ (rowIs_type hbr5.row hcr5.row (by decide)))
    have hW6 : CRow w6 w3.heap.size n (winF F x n n) := by rw [hw6]; exact (hW5.setOther hcr5.row (by decide) (by omega) _ _).drewN q
    have hR6 := drel_start HP.out HM.out hB6 hW6
    clear hw6 hcP hB6 hW6 hB5 hW5 hown5 hbr5 hcr5 hin HP HM
    go_wp2_with fail
    go_loopw [19, 20, 21, 22] (fun t i _ _ wq => ∃ k : Nat, k ≤ ix - x + 1 ∧ i = .int .i64 k ∧ t = .int .i64 (cntN (winF (putF F (ix % n) (.slice k0 k1 k1)) x n n) k : Nat) ∧ DRel w.heap.size w wq w.heap.size w4.heap.size w3.heap.size n x k (putF F (ix % n) (.slice k0 k1 k1)) F pl ms) (fun _ i _ _ _ => ix - x + 1 - (intOf i).toNat)
    case atStart => exact ⟨0, Nat.zero_le _, rfl, rfl, hR6⟩
    case round =>
      obtain ⟨k, hk, rfl, rfl, hR⟩ := hrel
      clear hR6
      by_cases hlt : k ≤ ix - x
      · by_cases hkd : k = ix - x
        · have hq : ((k : Int) == (ix : Int) - (x : Int)) = true := by rw [beq_iff_eq]; omega
          have hFk' : (putF F (ix % n) (.slice k0 k1 k1)) ((x + k) % n) = .slice k0 k1 k1 := by rw [show x + k = ix by omega]; exact putF_at _ _ _
          have hWk : winF (putF F (ix % n) (.slice k0 k1 k1)) x n n k = .slice k0 k1 k1 := by rw [winF_at _ x (by omega), hFk']
          clear hkd
          have hplay := play w.heap.size w wr w.heap.size w4.heap.size n x k (putF F (ix % n) (.slice k0 k1 k1)) _ _ hn (by omega) (by omega) hR.buf k0 k1 hFk'
          have hcn := cntN_le (winF (putF F (ix % n) (.slice k0 k1 k1)) x n n) k
          go_wp2_with fail
          refine hplay.mono ?_
          clear hplay
          rintro e w5 ⟨rfl, hP⟩
          have hR5 := drel_step hR (by omega) (by omega) hFk' hP
          have hown := hP.own
          obtain ⟨a9, l9, hc9, hF9, _⟩ := hR5.win.cell (i := k) (by omega)
          skip
          clear hP hR hFk' hF9
          go_wp2_with fail
          refine (bytesEq k0 k1 w5 hown).mono ?_
          rintro e w6 ⟨rfl, q6, rfl⟩
          rcases k0 with _ | ad9
          · have HR : Hid (DRel w.heap.size w (w5.drewN q6) w.heap.size w4.heap.size w3.heap.size n x (k + 1) (putF F (ix % n) (.slice none k1 k1)) F pl ms ∧ cntN (winF (putF F (ix % n) (.slice none k1 k1)) x n n) (k + 1) = cntN (winF (putF F (ix % n) (.slice none k1 k1)) x n n) k) := ⟨drel_drewN hR5 q6, cnt_nil hWk⟩
            clear hR5 hown hWk
            go_wp2_with fail
            go_roundw
            case rel => exact ⟨k + 1, by omega, by go_num, by rw [HR.out.2], HR.out.1⟩
            case measure => simp [intOf]; omega
          · have HR : Hid (DRel w.heap.size w (w5.drewN q6) w.heap.size w4.heap.size w3.heap.size n x (k + 1) (putF F (ix % n) (.slice (some ad9) k1 k1)) F pl ms ∧ cntN (winF (putF F (ix % n) (.slice (some ad9) k1 k1)) x n n) (k + 1) = cntN (winF (putF F (ix % n) (.slice (some ad9) k1 k1)) x n n) k + 1) := ⟨drel_drewN hR5 q6, cnt_some hWk⟩
            clear hR5 hown hWk
            go_wp2_with fail
            go_roundw
            case rel => exact ⟨k + 1, by omega, by go_num, by rw [HR.out.2]; go_num, HR.out.1⟩
            case measure => simp [intOf]; omega
        · have hq : ((k : Int) == (ix : Int) - (x : Int)) = false := by rw [beq_eq_false_iff_ne]; omega
          obtain ⟨ao, l, _, hFW, _⟩ := hR.win.cell (i := k) (by omega)
          rw [winF_at F x (by omega)] at hFW
          have hFk' : (putF F (ix % n) (.slice k0 k1 k1)) ((x + k) % n) = .slice ao l l := by
            have hh := putF_before F (x := x) (d := ix - x) (n := n) (k := k) (.slice k0 k1 k1) hid (by omega)
            rw [show x + (ix - x) = ix by omega] at hh
            rw [hh, hFW]
          have hWk : winF (putF F (ix % n) (.slice k0 k1 k1)) x n n k = .slice ao l l := by rw [winF_at _ x (by omega), hFk']
          clear hkd
          have hplay := play w.heap.size w wr w.heap.size w4.heap.size n x k (putF F (ix % n) (.slice k0 k1 k1)) _ _ hn (by omega) (by omega) hR.buf ao l hFk'
          have hcn := cntN_le (winF (putF F (ix % n) (.slice k0 k1 k1)) x n n) k
          go_wp2_with fail
          refine hplay.mono ?_
          clear hplay
          rintro e w5 ⟨rfl, hP⟩
          have hR5 := drel_step hR (by omega) (by omega) hFk' hP
          have hown := hP.own
          obtain ⟨a9, l9, hc9, hF9, _⟩ := hR5.win.cell (i := k) (by omega)
          rw [winF_at F x (by omega), hFW] at hF9
          obtain ⟨rfl, rfl⟩ : ao = a9 ∧ l = l9 := by simpa using hF9
          clear hP hR hFk' hF9
          go_wp2_with fail
          refine (bytesEq ao l w5 hown).mono ?_
          rintro e w6 ⟨rfl, q6, rfl⟩
          rcases ao with _ | ad9
          · have HR : Hid (DRel w.heap.size w (w5.drewN q6) w.heap.size w4.heap.size w3.heap.size n x (k + 1) (putF F (ix % n) (.slice k0 k1 k1)) F pl ms ∧ cntN (winF (putF F (ix % n) (.slice k0 k1 k1)) x n n) (k + 1) = cntN (winF (putF F (ix % n) (.slice k0 k1 k1)) x n n) k) := ⟨drel_drewN hR5 q6, cnt_nil hWk⟩
            clear hR5 hown hWk
            go_wp2_with fail
            go_roundw
            case rel => exact ⟨k + 1, by omega, by go_num, by rw [HR.out.2], HR.out.1⟩
            case measure => simp [intOf]; omega
          · have HR : Hid (DRel w.heap.size w (w5.drewN q6) w.heap.size w4.heap.size w3.heap.size n x (k + 1) (putF F (ix % n) (.slice k0 k1 k1)) F pl ms ∧ cntN (winF (putF F (ix % n) (.slice k0 k1 k1)) x n n) (k + 1) = cntN (winF (putF F (ix % n) (.slice k0 k1 k1)) x n n) k + 1) := ⟨drel_drewN hR5 q6, cnt_some hWk⟩
            clear hR5 hown hWk
            go_wp2_with fail
            go_roundw
            case rel => exact ⟨k + 1, by omega, by go_num, by rw [HR.out.2]; go_num, HR.out.1⟩
            case measure => simp [intOf]; omega
      · obtain rfl : k = ix - x + 1 := by omega
        have hU := U_last (x := x) (ix := ix) hxi
        have hcn := cntN_le (winF (putF F (ix % n) (.slice k0 k1 k1)) x n n) (ix - x + 1)
        have hbr := hR.buf.brow
        have hbel := hR.buf.below
        clear hR
        go_wp2_with fail
        refine (bufState _ _ _ _ _ _ _ wr hbr).mono ?_
        rintro e w7 ⟨rfl, q7, rfl⟩
        clear hbr
        go_wp2_with fail
        go_ret
        exact ⟨ret_bool (ms_eq hxi ms _), ⟨hbel.os, hbel.tape, hbel.output, hbel.size, hbel.block⟩⟩
  · clear hownd
    go_wp2_with fail
    refine (newBuffer _ _ _ _ _ _ _).mono ?_
    rintro e w5 ⟨rfl, hw5⟩
    have hB5 : Buf w.heap.size w w5 w.heap.size w4.heap.size n (U x 0) (clr F x n 0) pl ms := by rw [hw5]; exact buf_new (by omega) hbel4 (Nat.le_refl _) hbel4.size hF4
    have hW5 : CRow w5 w3.heap.size n (winF F x n n) := by rw [hw5]; exact hW4.alloc _
    have hown5 : Own w5 k0 k1 := by rw [hw5]; exact hown4.alloc _
    clear hw5 hF4 hown4 hbel4 hW4 hcd
    have hbr5 := hB5.brow
    rw [U_zero (by omega)] at hbr5
    have hcr5 := hB5.crow
    rw [clr_zero] at hcr5
    go_wp2_with fail
    have hcP : w5.cell? ⟨w.heap.size, ix % n, none⟩ = some (.slice (some ad') l l) := by rw [hcr5.row.cell hsl, HFd.out]
    refine (put_full w4.heap.size x ix w.heap.size n pl ms k0 k1 ad' l w5 (by omega) hix hn hn0 hbr5 hin hcP).mono ?_
    rintro e w6 ⟨rfl, q, hw6⟩
    have hR6 : DRel w.heap.size w w6 w.heap.size w4.heap.size w3.heap.size n x 0 F F pl ms := by rw [hw6]; exact drel_drewN (drel_start HP.out HM.out hB5 hW5) q
    clear hw6 hcP hB5 hW5 hown5 hbr5 hcr5 hin HP HM
    go_wp2_with fail
    go_loopw [19, 20, 21, 22] (fun t i _ _ wq => ∃ k : Nat, k ≤ ix - x + 1 ∧ i = .int .i64 k ∧ t = .int .i64 (cntN (winF F x n n) k : Nat) ∧ DRel w.heap.size w wq w.heap.size w4.heap.size w3.heap.size n x k F F pl ms) (fun _ i _ _ _ => ix - x + 1 - (intOf i).toNat)
    case atStart => exact ⟨0, Nat.zero_le _, rfl, rfl, hR6⟩
    case round =>
      obtain ⟨k, hk, rfl, rfl, hR⟩ := hrel
      clear hR6
      by_cases hlt : k ≤ ix - x
      · by_cases hkd : k = ix - x
        · have hq : ((k : Int) == (ix : Int) - (x : Int)) = true := by rw [beq_iff_eq]; omega
          clear hkd
          obtain ⟨ao, l, _, hFW, _⟩ := hR.win.cell (i := k) (by omega)
          rw [winF_at F x (by omega)] at hFW
          have hFk' := hFW
          have hWk : winF F x n n k = .slice ao l l := by rw [winF_at _ x (by omega), hFk']
          have hplay := play w.heap.size w wr w.heap.size w4.heap.size n x k F _ _ hn (by omega) (by omega) hR.buf ao l hFk'
          have hcn := cntN_le (winF F x n n) k
          go_wp2_with fail
          refine hplay.mono ?_
          clear hplay
          rintro e w5 ⟨rfl, hP⟩
          have hR5 := drel_step hR (by omega) (by omega) hFk' hP
          have hown := hP.own
          obtain ⟨a9, l9, hc9, hF9, _⟩ := hR5.win.cell (i := k) (by omega)
          rw [winF_at F x (by omega), hFW] at hF9
          obtain ⟨rfl, rfl⟩ : ao = a9 ∧ l = l9 := by simpa using hF9
          clear hP hR hFk' hF9
          go_wp2_with fail
          refine (bytesEq ao l w5 hown).mono ?_
          rintro e w6 ⟨rfl, q6, rfl⟩
          rcases ao with _ | ad9
          · have HR : Hid (DRel w.heap.size w (w5.drewN q6) w.heap.size w4.heap.size w3.heap.size n x (k + 1) F F pl ms ∧ cntN (winF F x n n) (k + 1) = cntN (winF F x n n) k) := ⟨drel_drewN hR5 q6, cnt_nil hWk⟩
            clear hR5 hown hWk
            go_wp2_with fail
            go_roundw
            case rel => exact ⟨k + 1, by omega, by go_num, by rw [HR.out.2], HR.out.1⟩
            case measure => simp [intOf]; omega
          · have HR : Hid (DRel w.heap.size w (w5.drewN q6) w.heap.size w4.heap.size w3.heap.size n x (k + 1) F F pl ms ∧ cntN (winF F x n n) (k + 1) = cntN (winF F x n n) k + 1) := ⟨drel_drewN hR5 q6, cnt_some hWk⟩
            clear hR5 hown hWk
            go_wp2_with fail
            go_roundw
            case rel => exact ⟨k + 1, by omega, by go_num, by rw [HR.out.2]; go_num, HR.out.1⟩
            case measure => simp [intOf]; omega
        · have hq : ((k : Int) == (ix : Int) - (x : Int)) = false := by rw [beq_eq_false_iff_ne]; omega
          clear hkd
          obtain ⟨ao, l, _, hFW, _⟩ := hR.win.cell (i := k) (by omega)
          rw [winF_at F x (by omega)] at hFW
          have hFk' := hFW
          have hWk : winF F x n n k = .slice ao l l := by rw [winF_at _ x (by omega), hFk']
          have hplay := play w.heap.size w wr w.heap.size w4.heap.size n x k F _ _ hn (by omega) (by omega) hR.buf ao l hFk'
          have hcn := cntN_le (winF F x n n) k
          go_wp2_with fail
          refine hplay.mono ?_
          clear hplay
          rintro e w5 ⟨rfl, hP⟩
          have hR5 := drel_step hR (by omega) (by omega) hFk' hP
          have hown := hP.own
          obtain ⟨a9, l9, hc9, hF9, _⟩ := hR5.win.cell (i := k) (by omega)
          rw [winF_at F x (by omega), hFW] at hF9
          obtain ⟨rfl, rfl⟩ : ao = a9 ∧ l = l9 := by simpa using hF9
          clear hP hR hFk' hF9
          go_wp2_with fail
          refine (bytesEq ao l w5 hown).mono ?_
          rintro e w6 ⟨rfl, q6, rfl⟩
          rcases ao with _ | ad9
          · have HR : Hid (DRel w.heap.size w (w5.drewN q6) w.heap.size w4.heap.size w3.heap.size n x (k + 1) F F pl ms ∧ cntN (winF F x n n) (k + 1) = cntN (winF F x n n) k) := ⟨drel_drewN hR5 q6, cnt_nil hWk⟩
            clear hR5 hown hWk
            go_wp2_with fail
            go_roundw
            case rel => exact ⟨k + 1, by omega, by go_num, by rw [HR.out.2], HR.out.1⟩
            case measure => simp [intOf]; omega
          · have HR : Hid (DRel w.heap.size w (w5.drewN q6) w.heap.size w4.heap.size w3.heap.size n x (k + 1) F F pl ms ∧ cntN (winF F x n n) (k + 1) = cntN (winF F x n n) k + 1) := ⟨drel_drewN hR5 q6, cnt_some hWk⟩
            clear hR5 hown hWk
            go_wp2_with fail
            go_roundw
            case rel => exact ⟨k + 1, by omega, by go_num, by rw [HR.out.2]; go_num, HR.out.1⟩
            case measure => simp [intOf]; omega
      · obtain rfl : k = ix - x + 1 := by omega
        have hU := U_last (x := x) (ix := ix) hxi
        have hcn := cntN_le (winF F x n n) (ix - x + 1)
        have hbr := hR.buf.brow
        have hbel := hR.buf.below
        clear hR
        go_wp2_with fail
        refine (bufState _ _ _ _ _ _ _ wr hbr).mono ?_
        rintro e w7 ⟨rfl, q7, rfl⟩
        clear hbr
        go_wp2_with fail
        go_ret
        exact ⟨ret_bool (ms_eq hxi ms _), ⟨hbel.os, hbel.tape, hbel.output, hbel.size, hbel.block⟩⟩

set_option maxHeartbeats 1000000 in
set_option maxRecDepth 100000 in
theorem deliver_early (x ix : Nat) (pl ms : Int) (ao : Option Addr) (n c : Nat) (co : Option Addr) (m mc : Nat) (A : Nat → Option Addr) (L C : Nat → Nat) (w : World)
    (hx : x ≤ 18446744073709551615) (hix : ix ≤ 18446744073709551615) (hnm : n ≤ 9223372036854775807) (hmm : m ≤ 9223372036854775807) (hA : Arg w ao n c A L C) (hco : co = none → m = 0 ∧ mc = 0)
    (h : n = 0 ∨ 18446744073709551615 < x + (n - 1) ∨ co = none ∨ ix < x ∨ n ≤ ix - x) :
    Calls Try.prog 4 #[.int .u64 x, .slice ao n c, .int .i64 pl, .int .i64 ms, .int .u64 ix, .slice co m mc] w fun e w' => e = .returned (.bool true) ∧ Below w.heap.size w w' := by
  have H7 := bytes15 x pl ms ix ao n c co m mc A L C w hnm hmm hA.cells
  have H8 := tooBig m ao n c A L C w hnm (by omega) (by omega) hA.cells
  have hnil := fun (a : Option Addr) (n c : Nat) (w : World) => Lib.run_eql_slice_nil (P := Try.prog) w 24 5 a n c 0 0 Try.underlying24
  clear hA
  by_cases hz : n = 0
  · have hq1 : ((n : Int) == 0) = true := by rw [beq_iff_eq]; omega
    clear h hz hco
    go_enter Try.func4, Try.ntmps4
    go_wp2_with (first | (go_at_call 15; refine H7.mono ?_; clear H7; rintro e w ⟨⟨b7, rfl⟩, rfl⟩; cases b7) | (go_at_call 8; refine H8.mono ?_; clear H8; rintro e w ⟨h8, rfl⟩; rcases h8 with rfl | ⟨rfl, hn, hm, hL⟩))
    all_goals
      go_ret
      exact ⟨rfl, Below.refl _ _⟩
  have hq1 : ((n : Int) == 0) = false := by rw [beq_eq_false_iff_ne]; omega
  have hn1 : 1 ≤ n := by omega
  by_cases ho : 18446744073709551615 < x + (n - 1)
  · have hq2 : decide ((18446744073709551615 : Int) - (x : Int) < (n : Int) - 1) = true := decide_eq_true (by omega)
    clear h hz ho hco
    go_enter Try.func4, Try.ntmps4
    go_wp2_with (first | (go_at_call 15; refine H7.mono ?_; clear H7; rintro e w ⟨⟨b7, rfl⟩, rfl⟩; cases b7) | (go_at_call 8; refine H8.mono ?_; clear H8; rintro e w ⟨h8, rfl⟩; rcases h8 with rfl | ⟨rfl, hn, hm, hL⟩))
    all_goals
      go_ret
      exact ⟨rfl, Below.refl _ _⟩
  have hq2 : decide ((18446744073709551615 : Int) - (x : Int) < (n : Int) - 1) = false := decide_eq_false (by omega)
  rcases co with _ | cad
  · obtain ⟨rfl, rfl⟩ := hco rfl
    clear h hz ho hco
    go_enter Try.func4, Try.ntmps4
    go_wp2_with (first | (go_at_call 15; refine H7.mono ?_; clear H7; rintro e w ⟨⟨b7, rfl⟩, rfl⟩; cases b7) | (go_at_call 8; refine H8.mono ?_; clear H8; rintro e w ⟨h8, rfl⟩; rcases h8 with rfl | ⟨rfl, hn, hm, hL⟩))
    all_goals
      go_ret
      exact ⟨rfl, Below.refl _ _⟩
  by_cases hl : ix < x
  · have hq3 : decide ((ix : Int) < (x : Int)) = true := decide_eq_true (by omega)
    clear h hz ho hco
    go_enter Try.func4, Try.ntmps4
    go_wp2_with (first | (go_at_call 15; refine H7.mono ?_; clear H7; rintro e w ⟨⟨b7, rfl⟩, rfl⟩; cases b7) | (go_at_call 8; refine H8.mono ?_; clear H8; rintro e w ⟨h8, rfl⟩; rcases h8 with rfl | ⟨rfl, hn, hm, hL⟩))
    all_goals
      go_ret
      exact ⟨rfl, Below.refl _ _⟩
  have hq3 : decide ((ix : Int) < (x : Int)) = false := decide_eq_false (by omega)
  have hxi : x ≤ ix := by omega
  have hq4 : decide ((n : Int) ≤ (ix : Int) - (x : Int)) = true := by
    rcases h with h | h | h | h | h
    · omega
    · omega
    · cases h
    · omega
    · exact decide_eq_true (by omega)
  clear h hz ho hco hl
  go_enter Try.func4, Try.ntmps4
  go_wp2_with (first | (go_at_call 15; refine H7.mono ?_; clear H7; rintro e w ⟨⟨b7, rfl⟩, rfl⟩; cases b7) | (go_at_call 8; refine H8.mono ?_; clear H8; rintro e w ⟨h8, rfl⟩; rcases h8 with rfl | ⟨rfl, hn, hm, hL⟩))
  all_goals
    go_ret
    exact ⟨rfl, Below.refl _ _⟩

theorem deliver (x ix : Nat) (pl ms : Int) (ao : Option Addr) (n c : Nat) (co : Option Addr) (m mc : Nat) (A : Nat → Option Addr) (L C : Nat → Nat) (w : World) (hp : (Lit.int .i64 pl).wf = true) (hm : (Lit.int .i64 ms).wf = true)
    (hx : x ≤ 18446744073709551615) (hix : ix ≤ 18446744073709551615) (hnm : n ≤ 9223372036854775807) (hmm : m ≤ 9223372036854775807)
    (hA : Arg w ao n c A L C) (hco : co = none → m = 0 ∧ mc = 0) (hcB : BytesIn w co m) :
    Calls Try.prog 4 #[.int .u64 x, .slice ao n c, .int .i64 pl, .int .i64 ms, .int .u64 ix, .slice co m mc] w fun e w' => e = .returned (.bool true) ∧ Below w.heap.size w w' := by
  by_cases h : n = 0 ∨ 18446744073709551615 < x + (n - 1) ∨ co = none ∨ ix < x ∨ n ≤ ix - x
  · exact deliver_early x ix pl ms ao n c co m mc A L C w hx hix hnm hmm hA hco h
  · have h1 : ¬ n = 0 := fun e => h (Or.inl e)
    have h2 : ¬ 18446744073709551615 < x + (n - 1) := fun e => h (Or.inr (Or.inl e))
    have h3 : ¬ co = none := fun e => h (Or.inr (Or.inr (Or.inl e)))
    have h4 : ¬ ix < x := fun e => h (Or.inr (Or.inr (Or.inr (Or.inl e))))
    have h5 : ¬ n ≤ ix - x := fun e => h (Or.inr (Or.inr (Or.inr (Or.inr e))))
    rcases ao with _ | ad
    · exact absurd (hA.bare rfl).1 h1
    · rcases co with _ | cad
      · exact absurd rfl h3
      · exact deliver_main x ix pl ms ad n c cad m mc A L C w hp hm hix (by omega) (by omega) (by omega) (by omega) hnm hmm hA hcB
end Go.Proofs.Qxb6605435a
