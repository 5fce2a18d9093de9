/-
  SEAT b6605435a. THE WALK OF FnBufferPutExact.
-/
import Derived.Test.Qxb6605435aState
import Derived.Lib.Builder
namespace Go.Proofs.Qxb6605435a
open Go.RowKit

/-- The copy of the cells, k of them copied. -/
def cpyF (F : Nat → Value) (k : Nat) : Nat → Value := fun j => if j < k then F j else .slice none 0 0
theorem cpyF_step {w : World} {N n k : Nat} {F : Nat → Value} (h : CRow w N n (cpyF F k)) {v : Value} (hv : OwnV w v) (e : F k = v) : CRow (w.setCell ⟨N, k, none⟩ v) N n (cpyF F (k + 1)) := by
  refine (h.set k hv).congr (fun j _ => ?_)
  unfold cpyF
  by_cases e1 : j = k
  · subst e1; rw [if_pos rfl, if_pos (by omega), e]
  · rw [if_neg e1]
    by_cases h2 : j < k
    · rw [if_pos h2, if_pos (by omega)]
    · rw [if_neg h2, if_neg (by omega)]
theorem cpyF_zero {w : World} {n : Nat} {F : Nat → Value} : CRow (w.alloc (.cells (madeCells #[.slice none 0 0] n) 24)) w.heap.size n (cpyF F 0) := (CRow.made w n).congr (fun j _ => by simp [cpyF])
theorem cpyF_all {w : World} {N n : Nat} {F : Nat → Value} (h : CRow w N n (cpyF F n)) : CRow w N n F := h.congr (fun j hj => by simp [cpyF, hj])

set_option maxHeartbeats 1000000 in
set_option maxRecDepth 100000 in
theorem putExact_in (x ix d : Nat) (pl ms : Int) (ad : Addr) (n c : Nat) (co : Option Addr) (m mc : Nat) (A : Nat → Option Addr) (L C : Nat → Nat) (w : World)
    (hx : x ≤ 18446744073709551615) (hix : ix ≤ 18446744073709551615) (hn0 : 0 < n) (hnm : n ≤ 9223372036854775807) (hmm : m ≤ 9223372036854775807)
    (hA : Arg w (some ad) n c A L C) (hco : co = none → m = 0 ∧ mc = 0) (hcB : BytesIn w co m) (hd : d < n) (Hd : Hid (ix = x + d)) :
    Calls Try.prog 3 #[.int .u64 x, .slice (some ad) n c, .int .i64 pl, .int .i64 ms, .int .u64 ix, .slice co m mc] w fun e w' => e = .returned (.bool true) ∧ Below w.heap.size w w' := by
  have H7 := bytes7 x pl ms ix (some ad) n c co m mc A L C w hnm hmm hA.cells
  have H8 := tooBig m (some ad) n c A L C w hnm (by omega) (by omega) hA.cells
  go_enter Try.func3, Try.ntmps3
  go_wp2_with (first | (go_at_call 7; refine H7.mono ?_; clear H7; rintro e w ⟨⟨b7, rfl⟩, rfl⟩; cases b7) | (go_at_call 8; refine H8.mono ?_; clear H8; rintro e w ⟨h8, rfl⟩; rcases h8 with rfl | ⟨rfl, hn, hm, hL⟩))
  · go_ret
    exact ⟨rfl, Below.refl _ _⟩
  · go_ret
    exact ⟨rfl, Below.refl _ _⟩
  refine (cloneCells ad n c A L C _ hn hL hA).mono ?_
  rintro e w2 ⟨F, rfl, hF, hb2⟩
  go_wp2_with fail
  refine (cloneBytes co m mc w2 (by omega) hco (hcB.below hb2 (Nat.le_refl _))).mono ?_
  rintro e w3 ⟨k0, k1, rfl, hown, hb3⟩
  have hF3 := hF.below hb3
  have hbel := hb2.trans (hb3.mono hb2.size)
  have hN2 : w.heap.size < w3.heap.size := hF3.row.lt
  have hmk := run_make_row' (P := Try.prog) 23 24 (.slice none 0 0) 24 Try.underlying23 Try.info24 rfl .i64 .i64 n (by omega) (by omega)
  clear hF hb2 hb3 hA hco hcB hL hm hmm hnm
  go_wp2_with fail
  go_loop [14, 15, 16] (fun ps i _ => ∃ k : Nat, k ≤ d ∧ i = .int .i64 k ∧ ps = .int .i64 (-1)) (fun _ i _ => n - (intOf i).toNat)
  case atStart => exact ⟨0, Nat.zero_le _, rfl, rfl⟩
  case round =>
    obtain ⟨k, hk, rfl, rfl⟩ := hrel
    have hltn : k < n := by omega
    have hle : x + k ≤ ix := by have := Hd.out; omega
    by_cases hkd : k < d
    · have hq : (((x : Int) + (k : Int)) == (ix : Int)) = false := by have := Hd.out; simp; omega
      go_wp2_with fail
      go_round
      case rel => exact ⟨k + 1, by omega, by go_num, rfl⟩
      case measure => simp [intOf]; omega
    · obtain rfl : d = k := by omega
      have hq : (((x : Int) + (d : Int)) == (ix : Int)) = true := by have := Hd.out; simp; omega
      go_wp2_with fail
      clear hmk hq hkd hk
      go_loopw [18] (fun i wr => ∃ k : Nat, k ≤ n ∧ i = .int .i64 k ∧ CRow wr w3.heap.size n (cpyF F k) ∧ Below w3.heap.size w3 wr) (fun i _ => n - (intOf i).toNat)
      case atStart => exact ⟨0, Nat.zero_le _, rfl, cpyF_zero, (Below.refl _ _).alloc (Nat.le_refl _) _⟩
      case round =>
        obtain ⟨k, hk, rfl, hrow, hb4⟩ := hrel
        by_cases hlt : k < n
        · obtain ⟨ao, l, hc, hFe, hownk⟩ := (hF3.below hb4).cell hlt
          have HR : Hid (CRow (wr.setCell ⟨w3.heap.size, k, none⟩ (.slice ao l l)) w3.heap.size n (cpyF F (k + 1)) ∧ Below w3.heap.size w3 (wr.setCell ⟨w3.heap.size, k, none⟩ (.slice ao l l))) :=
            ⟨cpyF_step hrow ⟨ao, l, rfl, hownk⟩ hFe, hb4.setCell (Nat.le_refl _) _⟩
          have hst1 := hrow.row.cell hlt
          have hst2 := hrow.row.frozen k
          clear hFe hownk hrow hb4 hF3 hown hbel hltn hle
          go_wp2
          go_roundw
          case rel => exact ⟨k + 1, by omega, by go_num, HR.out.1, HR.out.2⟩
          case measure => simp [intOf]; omega
        · obtain rfl : n = k := by omega
          have hO := cpyF_all hrow
          have hC := hF3.below hb4
          have hown4 := hown.below hb4 (Nat.le_refl _)
          have hbel4 := hbel.trans (hb4.mono hbel.size)
          have hsl : (x + d) % n < n := Nat.mod_lt _ hn0
          obtain ⟨ao, l, hc, hFe, hownk⟩ := hO.cell hsl
          have HF : Hid (F ((x + d) % n) = .slice ao l l) := hFe
          have hne : ((n : Int) == 0) = false := by simp; omega
          have hm0 : (0 : Int) ≤ (x : Int) % (n : Int) := Int.emod_nonneg _ (by omega)
          have hm1 : (x : Int) % (n : Int) < (n : Int) := Int.emod_lt_of_pos _ (by omega)
          have hi0 : (0 : Int) ≤ ((x : Int) + (d : Int)) % (n : Int) := Int.emod_nonneg _ (by omega)
          have hi1 : ((x : Int) + (d : Int)) % (n : Int) < (n : Int) := Int.emod_lt_of_pos _ (by omega)
          have hnil := fun (a : Option Addr) (n c : Nat) (w : World) => Lib.run_eql_slice_nil (P := Try.prog) w 24 5 a n c 0 0 Try.underlying24
          have hge : decide ((0 : Int) ≤ ((x : Int) + (d : Int)) % (n : Int)) = true := decide_eq_true hi0
          clear hrow hF3 hown hbel hFe hb4
          have hrem : ix % n = (x + d) % n := by rw [Hd.out]
          have HX : Hid (ix % n = (x + d) % n) := hrem
          have hin : inW x ix n = true := by have := Hd.out; unfold inW; exact decide_eq_true (by omega)
          clear hrem
          rcases ao with _ | ad'
          · have hl : l = 0 := by
              rcases hownk with ⟨_, h0⟩ | ⟨g, Z, h0, _⟩
              · exact h0
              · cases h0
            subst hl
            clear hownk
            go_wp2_with fail
            refine (newBuffer _ _ _ _ _ _ _).mono ?_
            rintro e w5 ⟨rfl, hw5⟩
            have hBr5 : BRow w5 wr.heap.size x (some ⟨w.heap.size, 0, none⟩) n n pl ms := by rw [hw5]; exact BRow.new _ _ _ _ _ _ _
            have hb5 : Below wr.heap.size wr w5 := by rw [hw5]; exact (Below.refl _ _).alloc (Nat.le_refl _) _
            clear hw5
            have hO5 := hO.below hb5
            have hC5 := hC.below hb5
            have hown5 := hown4.below hb5 (Nat.le_refl _)
            have hbel5 := hbel4.trans (hb5.mono hbel4.size)
            clear hO hC hown4 hbel4 hb5 hc
            go_wp2_with fail
            have hcP : w5.cell? ⟨w.heap.size, ix % n, none⟩ = some (.slice none 0 0) := by rw [HX.out, hC5.row.cell hsl, HF.out]
            refine (put_take wr.heap.size x ix w.heap.size n pl ms k0 k1 w5 hx hix hn hn0 hBr5 hin hcP (hC5.row.frozen _)).mono ?_
            rintro e w6 ⟨rfl, q, hw6⟩
            have hC6 : CRow w6 w.heap.size n (fun j => if j = ix % n then .slice k0 k1 k1 else F j) := by rw [hw6]; exact (hC5.set _ ⟨k0, k1, rfl, hown5⟩).drewN q
            have hO6 : CRow w6 w3.heap.size n F := by rw [hw6]; exact (hO5.setOther hC5.row (by decide) (by omega) _ _).drewN q
            have hBr6 : BRow w6 wr.heap.size x (some ⟨w.heap.size, 0, none⟩) n n pl ms := by
              rw [hw6]; exact hBr5.of_block (Below.heap_setCell _ _ _ _ (rowIs_type hBr5.row hC5.row (by decide)))
            have hown6 : Own w6 k0 k1 := by rw [hw6]; exact (hown5.setCell hC5.row (by decide) _ _).drewN q
            have hbel6 : Below w.heap.size w w6 := by
              rw [hw6]; have hh := hbel5.setCell (p := ⟨w.heap.size, ix % n, none⟩) (Nat.le_refl _) (.slice k0 k1 k1); exact ⟨hh.os, hh.tape, hh.output, hh.size, hh.block⟩
            clear hw6 hcP hBr5 hO5 hC5 hown5 hbel5 hin
            go_wp2_with fail
            refine (bufState _ _ _ _ _ _ _ w6 hBr6).mono ?_
            rintro e w7 ⟨rfl, q7, rfl⟩
            clear hBr6
            go_wp2_with fail
            have hsI : (((x + d) % n : Nat) : Int) = ((x : Int) + (d : Int)) % (n : Int) := by simp
            have HSI : Hid ((((x + d) % n : Nat) : Int) = ((x : Int) + (d : Int)) % (n : Int)) := hsI
            clear hsI hnil hge
            go_loopw [27, 28] (fun i _ wq => ∃ k q : Nat, k ≤ n ∧ i = .int .i64 k ∧ wq = w6.drewN q) (fun i _ _ => n - (intOf i).toNat)
            case atStart => exact ⟨0, q7, Nat.zero_le _, rfl, rfl⟩
            case round =>
              obtain ⟨k, q, hk, rfl, rfl⟩ := hrel
              by_cases hlt : k < n
              · obtain ⟨ao, l, hc1, hFe1, hown1⟩ := hO6.cell hlt
                have hc2 := hC6.row.cell hlt
                rw [HX.out] at hc2
                by_cases hks : k = (x + d) % n
                · rw [if_pos hks] at hc2
                  have hq : ((k : Int) == ((x : Int) + (d : Int)) % (n : Int)) = true := by rw [← HSI.out, hks]; simp
                  clear hks hFe1 hown1 hC6 hO6 hbel6
                  go_wp2_with fail
                  refine (bytesEq k0 k1 _ (hown6.drewN _)).mono ?_
                  rintro e wz ⟨rfl, qz, rfl⟩
                  go_wp2_with fail
                  go_roundw
                  case rel => exact ⟨k + 1, _, by omega, by go_num, rfl⟩
                  case measure => simp [intOf]; omega
                · rw [if_neg hks, hFe1] at hc2
                  have hq : ((k : Int) == ((x : Int) + (d : Int)) % (n : Int)) = false := by rw [← HSI.out, beq_eq_false_iff_ne]; exact fun h => hks (Int.ofNat.inj h)
                  clear hks hFe1 hC6 hO6 hbel6 hown6
                  go_wp2_with fail
                  refine (bytesEq ao l _ (hown1.drewN _)).mono ?_
                  rintro e wz ⟨rfl, qz, rfl⟩
                  go_wp2_with fail
                  go_roundw
                  case rel => exact ⟨k + 1, _, by omega, by go_num, rfl⟩
                  case measure => simp [intOf]; omega
              · have hc2 : w6.cell? ⟨w.heap.size, (x + d) % n, none⟩ = some (.slice k0 k1 k1) := by rw [hC6.row.cell hsl, HX.out, if_pos rfl]
                have hbelq : Below w.heap.size w (w6.drewN q) := ⟨hbel6.os, hbel6.tape, hbel6.output, hbel6.size, hbel6.block⟩
                clear hC6 hO6 hbel6
                by_cases hk1 : 0 < k1
                · obtain ⟨g, Z, rfl, _, _⟩ : ∃ (g : Nat) (Z : Nat → Int), k0 = some ⟨g, 0, none⟩ ∧ k1 ≤ 9223372036854775807 ∧ w6.rowIs g 5 k1 (fun j => .int .u8 (Z j)) := by
                    rcases hown6 with ⟨_, h0⟩ | h0
                    · omega
                    · exact h0
                  have hd1 : decide ((0 : Int) < (k1 : Int)) = true := decide_eq_true (by omega)
                  have hd2 : (0 : Int) < (k1 : Int) := by omega
                  have hc3 : w6.cell? ⟨w.heap.size, (((x : Int) + (d : Int)) % (n : Int)).toNat, none⟩ = some (.slice (some ⟨g, 0, none⟩) k1 k1) := by rw [← HSI.out, Int.toNat_natCast]; exact hc2
                  obtain ⟨i5, hi5, _⟩ := info_parts Try.info5
                  have hpn := fun (a : Addr) (w : World) => Lib.run_neq_ptr_same (P := Try.prog) w (tp := 35) a Try.underlying35 hi5
                  clear hown6
                  go_wp2_with fail
                  go_quiet (fail)
                  go_wp2
                  go_ret
                  exact ⟨rfl, ⟨hbelq.os, hbelq.tape, hbelq.output, hbelq.size, hbelq.block⟩⟩
                · have hd1 : decide ((0 : Int) < (k1 : Int)) = false := decide_eq_false (by omega)
                  clear hown6
                  go_wp2_with fail
                  go_quiet (fail)
                  go_wp2
                  go_ret
                  exact ⟨rfl, ⟨hbelq.os, hbelq.tape, hbelq.output, hbelq.size, hbelq.block⟩⟩
          · clear hownk
            go_wp2_with fail
            refine (newBuffer _ _ _ _ _ _ _).mono ?_
            rintro e w5 ⟨rfl, hw5⟩
            have hBr5 : BRow w5 wr.heap.size x (some ⟨w.heap.size, 0, none⟩) n n pl ms := by rw [hw5]; exact BRow.new _ _ _ _ _ _ _
            have hb5 : Below wr.heap.size wr w5 := by rw [hw5]; exact (Below.refl _ _).alloc (Nat.le_refl _) _
            clear hw5
            have hO5 := hO.below hb5
            have hC5 := hC.below hb5
            have hbel5 := hbel4.trans (hb5.mono hbel4.size)
            clear hO hC hown4 hbel4 hb5 hc
            go_wp2_with fail
            have hcP : w5.cell? ⟨w.heap.size, ix % n, none⟩ = some (.slice (some ad') l l) := by rw [HX.out, hC5.row.cell hsl, HF.out]
            refine (put_full wr.heap.size x ix w.heap.size n pl ms k0 k1 ad' l w5 hx hix hn hn0 hBr5 hin hcP).mono ?_
            rintro e w6 ⟨rfl, q, rfl⟩
            clear hcP hin
            go_wp2_with fail
            refine (bufState _ _ _ _ _ _ _ (w5.drewN q) hBr5).mono ?_
            rintro e w7 ⟨rfl, q7, rfl⟩
            clear hBr5
            go_wp2_with fail
            clear hnil hge
            go_loopw [27, 28] (fun i _ wq => ∃ k q : Nat, k ≤ n ∧ i = .int .i64 k ∧ wq = w5.drewN q) (fun i _ _ => n - (intOf i).toNat)
            case atStart => exact ⟨0, _, Nat.zero_le _, rfl, rfl⟩
            case round =>
              obtain ⟨k, q, hk, rfl, rfl⟩ := hrel
              by_cases hlt : k < n
              · obtain ⟨ao, l, hc1, hFe1, hown1⟩ := hO5.cell hlt
                have hc2 := hC5.row.cell hlt
                rw [hFe1] at hc2
                clear hFe1 hC5 hO5 hbel5
                go_wp2_with fail
                refine (bytesEq ao l _ (hown1.drewN _)).mono ?_
                rintro e wz ⟨rfl, qz, rfl⟩
                go_wp2_with fail
                go_roundw
                case rel => exact ⟨k + 1, _, by omega, by go_num, rfl⟩
                case measure => simp [intOf]; omega
              · have hbelq : Below w.heap.size w (w5.drewN q) := ⟨hbel5.os, hbel5.tape, hbel5.output, hbel5.size, hbel5.block⟩
                clear hC5 hO5 hbel5
                go_wp2_with fail
                go_quiet (fail)
                go_wp2
                go_ret
                exact ⟨rfl, ⟨hbelq.os, hbelq.tape, hbelq.output, hbelq.size, hbelq.block⟩⟩

/-- zzCloneCells, nil or not. -/
theorem cloneCells_any (ao : Option Addr) (n c : Nat) (A : Nat → Option Addr) (L C : Nat → Nat) (w : World) (hn : n ≤ 65536) (hL : ∀ i, i < n → L i ≤ 1048576) (hA : Arg w ao n c A L C) :
    Calls Try.prog 9 #[.slice ao n c] w fun e w' => ∃ bo F, e = .returned (.slice bo n n) ∧ (0 < n → bo = some ⟨w.heap.size, 0, none⟩ ∧ CRow w' w.heap.size n F) ∧ Below w.heap.size w w' := by
  rcases ao with _ | ad
  · obtain ⟨rfl, rfl⟩ := hA.bare rfl
    refine (cloneCells_nil w).mono ?_
    rintro e w' ⟨rfl, rfl⟩
    exact ⟨none, fun _ => .slice none 0 0, rfl, fun h => absurd h (Nat.lt_irrefl _), Below.refl _ _⟩
  · refine (cloneCells ad n c A L C w hn hL hA).mono ?_
    rintro e w' ⟨F, rfl, hF, hb⟩
    exact ⟨_, F, rfl, fun _ => ⟨rfl, hF⟩, hb⟩

theorem wrap_over {x k : Nat} (hx : x ≤ 18446744073709551615) (hk : k ≤ 65536) (h : 18446744073709551615 < x + k) : IntKind.u64.wrap ((x : Int) + (k : Int)) < (x : Int) := by
  simp [IntKind.wrap, IntKind.signed, IntKind.bits]
  omega

set_option maxHeartbeats 1000000 in
set_option maxRecDepth 100000 in
theorem putExact_out (x ix : Nat) (pl ms : Int) (ao : Option Addr) (n c : Nat) (co : Option Addr) (m mc : Nat) (A : Nat → Option Addr) (L C : Nat → Nat) (w : World)
    (hx : x ≤ 18446744073709551615) (hix : ix ≤ 18446744073709551615) (hnm : n ≤ 9223372036854775807) (hmm : m ≤ 9223372036854775807)
    (hA : Arg w ao n c A L C) (hco : co = none → m = 0 ∧ mc = 0) (hcB : BytesIn w co m) (Hd : Hid (¬ (x ≤ ix ∧ ix < x + n))) :
    Calls Try.prog 3 #[.int .u64 x, .slice ao n c, .int .i64 pl, .int .i64 ms, .int .u64 ix, .slice co m mc] w fun e w' => e = .returned (.bool true) ∧ Below w.heap.size w w' := by
  have H7 := bytes7 x pl ms ix ao n c co m mc A L C w hnm hmm hA.cells
  have H8 := tooBig m ao n c A L C w hnm (by omega) (by omega) hA.cells
  go_enter Try.func3, Try.ntmps3
  go_wp2_with (first | (go_at_call 7; refine H7.mono ?_; clear H7; rintro e w ⟨⟨b7, rfl⟩, rfl⟩; cases b7) | (go_at_call 8; refine H8.mono ?_; clear H8; rintro e w ⟨h8, rfl⟩; rcases h8 with rfl | ⟨rfl, hn, hm, hL⟩))
  · go_ret
    exact ⟨rfl, Below.refl _ _⟩
  · go_ret
    exact ⟨rfl, Below.refl _ _⟩
  refine (cloneCells_any ao n c A L C _ hn hL hA).mono ?_
  rintro e w2 ⟨bo, F, rfl, hF, hb2⟩
  go_wp2_with fail
  refine (cloneBytes co m mc w2 (by omega) hco (hcB.below hb2 (Nat.le_refl _))).mono ?_
  rintro e w3 ⟨k0, k1, rfl, hown, hb3⟩
  have hF3 : 0 < n → bo = some ⟨w.heap.size, 0, none⟩ ∧ CRow w3 w.heap.size n F := fun h => ⟨(hF h).1, (hF h).2.below hb3⟩
  have hbel := hb2.trans (hb3.mono hb2.size)
  have HF3 : Hid (0 < n → bo = some ⟨w.heap.size, 0, none⟩ ∧ CRow w3 w.heap.size n F) := hF3
  have hmk := run_make_row' (P := Try.prog) 23 24 (.slice none 0 0) 24 Try.underlying23 Try.info24 rfl .i64 .i64 n (by omega) (by omega)
  clear hF hb2 hb3 hA hco hcB hL hm hmm hnm hF3 hown
  go_wp2_with fail
  go_loop [14, 15, 16] (fun ps i _ => ∃ k : Nat, k ≤ n ∧ i = .int .i64 k ∧ ps = .int .i64 (-1)) (fun _ i _ => n - (intOf i).toNat)
  case atStart => exact ⟨0, Nat.zero_le _, rfl, rfl⟩
  case round =>
    obtain ⟨k, hk, rfl, rfl⟩ := hrel
    by_cases hltn : k < n
    · by_cases hov : x + k ≤ 18446744073709551615
      · have hq : (((x : Int) + (k : Int)) == (ix : Int)) = false := by have := Hd.out; rw [beq_eq_false_iff_ne]; omega
        go_wp2_with fail
        go_round
        case rel => exact ⟨k + 1, by omega, by go_num, rfl⟩
        case measure => simp [intOf]; omega
      · have hq := wrap_over hx (show k ≤ 65536 by omega) (by omega)
        go_wp2_with fail
        clear hmk
        go_loopw [18] (fun i wr => ∃ k : Nat, k ≤ n ∧ i = .int .i64 k ∧ CRow wr w3.heap.size n (cpyF F k) ∧ Below w3.heap.size w3 wr) (fun i _ => n - (intOf i).toNat)
        case atStart => exact ⟨0, Nat.zero_le _, rfl, cpyF_zero, (Below.refl _ _).alloc (Nat.le_refl _) _⟩
        case round =>
          obtain ⟨k, hk, rfl, hrow, hb4⟩ := hrel
          by_cases hlt : k < n
          · obtain ⟨rfl, hF3⟩ := HF3.out (by omega)
            obtain ⟨ao, l, hc, hFe, hownk⟩ := (hF3.below hb4).cell hlt
            have HR : Hid (CRow (wr.setCell ⟨w3.heap.size, k, none⟩ (.slice ao l l)) w3.heap.size n (cpyF F (k + 1)) ∧ Below w3.heap.size w3 (wr.setCell ⟨w3.heap.size, k, none⟩ (.slice ao l l))) :=
              ⟨cpyF_step hrow ⟨ao, l, rfl, hownk⟩ hFe, hb4.setCell (Nat.le_refl _) _⟩
            have hst1 := hrow.row.cell hlt
            have hst2 := hrow.row.frozen k
            clear hFe hownk hrow hb4 hF3 hbel
            go_wp2
            go_roundw
            case rel => exact ⟨k + 1, by omega, by go_num, HR.out.1, HR.out.2⟩
            case measure => simp [intOf]; omega
          · obtain rfl : n = k := by omega
            have hO := cpyF_all hrow
            have HC : Hid (0 < n → bo = some ⟨w.heap.size, 0, none⟩ ∧ CRow wr w.heap.size n F) := fun h => ⟨(HF3.out h).1, (HF3.out h).2.below hb4⟩
            have hbel4 := hbel.trans (hb4.mono hbel.size)
            have hin : inW x ix n = false := by have := Hd.out; unfold inW; exact decide_eq_false this
            clear hrow HF3 hbel hb4
            go_wp2_with fail
            refine (newBuffer _ _ _ _ _ _ _).mono ?_
            rintro e w5 ⟨rfl, hw5⟩
            have hBr5 : BRow w5 wr.heap.size x bo n n pl ms := by rw [hw5]; exact BRow.new _ _ _ _ _ _ _
            have hb5 : Below wr.heap.size wr w5 := by rw [hw5]; exact (Below.refl _ _).alloc (Nat.le_refl _) _
            clear hw5
            have hO5 := hO.below hb5
            have HC5 : Hid (0 < n → bo = some ⟨w.heap.size, 0, none⟩ ∧ CRow w5 w.heap.size n F) := fun h => ⟨(HC.out h).1, (HC.out h).2.below hb5⟩
            have hbel5 := hbel4.trans (hb5.mono hbel4.size)
            clear hO HC hbel4 hb5
            go_wp2_with fail
            refine (put_out wr.heap.size x ix bo n n pl ms k0 k1 w5 hx hix hn hBr5 hin).mono ?_
            rintro e w6 ⟨rfl, q, rfl⟩
            clear hin
            go_wp2_with fail
            refine (bufState _ _ _ _ _ _ _ (w5.drewN q) hBr5).mono ?_
            rintro e w7 ⟨rfl, q7, rfl⟩
            clear hBr5
            go_wp2_with fail
            go_loopw [27, 28] (fun i _ wq => ∃ k q : Nat, k ≤ n ∧ i = .int .i64 k ∧ wq = w5.drewN q) (fun i _ _ => n - (intOf i).toNat)
            case atStart => exact ⟨0, _, Nat.zero_le _, rfl, rfl⟩
            case round =>
              obtain ⟨k, q, hk, rfl, rfl⟩ := hrel
              by_cases hlt : k < n
              · obtain ⟨rfl, hC5⟩ := HC5.out (by omega)
                obtain ⟨ao, l, hc1, hFe1, hown1⟩ := hO5.cell hlt
                have hc2 := hC5.row.cell hlt
                rw [hFe1] at hc2
                clear hFe1 hC5 hO5 hbel5
                go_wp2_with fail
                refine (bytesEq ao l _ (hown1.drewN _)).mono ?_
                rintro e wz ⟨rfl, qz, rfl⟩
                go_wp2_with fail
                go_roundw
                case rel => exact ⟨k + 1, _, by omega, by go_num, rfl⟩
                case measure => simp [intOf]; omega
              · have hbelq : Below w.heap.size w (w5.drewN q) := ⟨hbel5.os, hbel5.tape, hbel5.output, hbel5.size, hbel5.block⟩
                clear HC5 hO5 hbel5
                go_wp2_with fail
                go_quiet (fail)
                go_wp2
                go_ret
                exact ⟨rfl, ⟨hbelq.os, hbelq.tape, hbelq.output, hbelq.size, hbelq.block⟩⟩
    · go_wp2_with fail
      clear hmk
      go_loopw [18] (fun i wr => ∃ k : Nat, k ≤ n ∧ i = .int .i64 k ∧ CRow wr w3.heap.size n (cpyF F k) ∧ Below w3.heap.size w3 wr) (fun i _ => n - (intOf i).toNat)
      case atStart => exact ⟨0, Nat.zero_le _, rfl, cpyF_zero, (Below.refl _ _).alloc (Nat.le_refl _) _⟩
      case round =>
        obtain ⟨k, hk, rfl, hrow, hb4⟩ := hrel
        by_cases hlt : k < n
        · obtain ⟨rfl, hF3⟩ := HF3.out (by omega)
          obtain ⟨ao, l, hc, hFe, hownk⟩ := (hF3.below hb4).cell hlt
          have HR : Hid (CRow (wr.setCell ⟨w3.heap.size, k, none⟩ (.slice ao l l)) w3.heap.size n (cpyF F (k + 1)) ∧ Below w3.heap.size w3 (wr.setCell ⟨w3.heap.size, k, none⟩ (.slice ao l l))) :=
            ⟨cpyF_step hrow ⟨ao, l, rfl, hownk⟩ hFe, hb4.setCell (Nat.le_refl _) _⟩
          have hst1 := hrow.row.cell hlt
          have hst2 := hrow.row.frozen k
          clear hFe hownk hrow hb4 hF3 hbel
          go_wp2
          go_roundw
          case rel => exact ⟨k + 1, by omega, by go_num, HR.out.1, HR.out.2⟩
          case measure => simp [intOf]; omega
        · obtain rfl : n = k := by omega
          have hO := cpyF_all hrow
          have HC : Hid (0 < n → bo = some ⟨w.heap.size, 0, none⟩ ∧ CRow wr w.heap.size n F) := fun h => ⟨(HF3.out h).1, (HF3.out h).2.below hb4⟩
          have hbel4 := hbel.trans (hb4.mono hbel.size)
          have hin : inW x ix n = false := by have := Hd.out; unfold inW; exact decide_eq_false this
          clear hrow HF3 hbel hb4
          go_wp2_with fail
          refine (newBuffer _ _ _ _ _ _ _).mono ?_
          rintro e w5 ⟨rfl, hw5⟩
          have hBr5 : BRow w5 wr.heap.size x bo n n pl ms := by rw [hw5]; exact BRow.new _ _ _ _ _ _ _
          have hb5 : Below wr.heap.size wr w5 := by rw [hw5]; exact (Below.refl _ _).alloc (Nat.le_refl _) _
          clear hw5
          have hO5 := hO.below hb5
          have HC5 : Hid (0 < n → bo = some ⟨w.heap.size, 0, none⟩ ∧ CRow w5 w.heap.size n F) := fun h => ⟨(HC.out h).1, (HC.out h).2.below hb5⟩
          have hbel5 := hbel4.trans (hb5.mono hbel4.size)
          clear hO HC hbel4 hb5
          go_wp2_with fail
          refine (put_out wr.heap.size x ix bo n n pl ms k0 k1 w5 hx hix hn hBr5 hin).mono ?_
          rintro e w6 ⟨rfl, q, rfl⟩
          clear hin
          go_wp2_with fail
          refine (bufState _ _ _ _ _ _ _ (w5.drewN q) hBr5).mono ?_
          rintro e w7 ⟨rfl, q7, rfl⟩
          clear hBr5
          go_wp2_with fail
          go_loopw [27, 28] (fun i _ wq => ∃ k q : Nat, k ≤ n ∧ i = .int .i64 k ∧ wq = w5.drewN q) (fun i _ _ => n - (intOf i).toNat)
          case atStart => exact ⟨0, _, Nat.zero_le _, rfl, rfl⟩
          case round =>
            obtain ⟨k, q, hk, rfl, rfl⟩ := hrel
            by_cases hlt : k < n
            · obtain ⟨rfl, hC5⟩ := HC5.out (by omega)
              obtain ⟨ao, l, hc1, hFe1, hown1⟩ := hO5.cell hlt
              have hc2 := hC5.row.cell hlt
              rw [hFe1] at hc2
              clear hFe1 hC5 hO5 hbel5
              go_wp2_with fail
              refine (bytesEq ao l _ (hown1.drewN _)).mono ?_
              rintro e wz ⟨rfl, qz, rfl⟩
              go_wp2_with fail
              go_roundw
              case rel => exact ⟨k + 1, _, by omega, by go_num, rfl⟩
              case measure => simp [intOf]; omega
            · have hbelq : Below w.heap.size w (w5.drewN q) := ⟨hbel5.os, hbel5.tape, hbel5.output, hbel5.size, hbel5.block⟩
              clear HC5 hO5 hbel5
              go_wp2_with fail
              go_quiet (fail)
              go_wp2
              go_ret
              exact ⟨rfl, ⟨hbelq.os, hbelq.tape, hbelq.output, hbelq.size, hbelq.block⟩⟩

end Go.Proofs.Qxb6605435a
