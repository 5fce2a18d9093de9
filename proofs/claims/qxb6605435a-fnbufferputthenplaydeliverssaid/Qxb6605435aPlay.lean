/-
  SEAT b6605435a. Put AND Play, each by a contract.
-/
import Derived.Test.Qxb6605435aBuf
namespace Go.Proofs.Qxb6605435a
open Go.RowKit

set_option maxHeartbeats 400000 in
theorem put_out (Bb x ix : Nat) (ao : Option Addr) (n c : Nat) (p m : Int) (co : Option Addr) (l : Nat) (w : World) (hx : x ≤ 18446744073709551615) (hix : ix ≤ 18446744073709551615) (hn : n ≤ 65536) (h : BRow w Bb x ao n c p m) (hin : inW x ix n = false) :
    Calls Try.prog 12 #[.pointer (some ⟨Bb, 0, none⟩), .int .u64 ix, .slice co l l] w fun e w' => e = .returned (.bool false) ∧ ∃ q, w' = w.drewN q := by
  have H := inWindow Bb x ix ao n c p m w hx hix hn h
  rw [hin] at H
  clear hin h
  go_enter Try.func12, Try.ntmps12
  go_wp2_with (go_at_call 20; refine H.mono ?_; clear H; rintro e w1 ⟨rfl, q, rfl⟩)
  go_ret
  exact ⟨rfl, _, rfl⟩

set_option maxHeartbeats 400000 in
theorem put_full (Bb x ix B : Nat) (n : Nat) (p m : Int) (co : Option Addr) (l : Nat) (ad : Addr) (l' : Nat) (w : World) (hx : x ≤ 18446744073709551615) (hix : ix ≤ 18446744073709551615) (hn : n ≤ 65536) (hn0 : 0 < n)
    (h : BRow w Bb x (some ⟨B, 0, none⟩) n n p m) (hin : inW x ix n = true) (hc : w.cell? ⟨B, ix % n, none⟩ = some (.slice (some ad) l' l')) :
    Calls Try.prog 12 #[.pointer (some ⟨Bb, 0, none⟩), .int .u64 ix, .slice co l l] w fun e w' => e = .returned (.bool false) ∧ ∃ q, w' = w.drewN q := by
  have H := inWindow Bb x ix _ n n p m w hx hix hn h
  rw [hin] at H
  have h1 := h.c1
  have hne : ((n : Int) == 0) = false := by simp; omega
  have hi0 : (0 : Int) ≤ (ix : Int) % (n : Int) := Int.emod_nonneg _ (by omega)
  have hi1 : (ix : Int) % (n : Int) < (n : Int) := Int.emod_lt_of_pos _ (by omega)
  clear hin h
  go_enter Try.func12, Try.ntmps12
  go_wp2_with (go_at_call 20; refine H.mono ?_; clear H; rintro e w1 ⟨rfl, q, rfl⟩)
  go_quiet (fail)
  go_wp2
  go_ret
  exact ⟨rfl, _, rfl⟩

set_option maxHeartbeats 400000 in
theorem put_take (Bb x ix B : Nat) (n : Nat) (p m : Int) (co : Option Addr) (l : Nat) (w : World) (hx : x ≤ 18446744073709551615) (hix : ix ≤ 18446744073709551615) (hn : n ≤ 65536) (hn0 : 0 < n)
    (h : BRow w Bb x (some ⟨B, 0, none⟩) n n p m) (hin : inW x ix n = true) (hc : w.cell? ⟨B, ix % n, none⟩ = some (.slice none 0 0)) (hf : w.frozen? ⟨B, ix % n, none⟩ = false) :
    Calls Try.prog 12 #[.pointer (some ⟨Bb, 0, none⟩), .int .u64 ix, .slice co l l] w fun e w' => e = .returned (.bool true) ∧ ∃ q, w' = (w.setCell ⟨B, ix % n, none⟩ (.slice co l l)).drewN q := by
  have H := inWindow Bb x ix _ n n p m w hx hix hn h
  rw [hin] at H
  have h1 := h.c1
  have hne : ((n : Int) == 0) = false := by simp; omega
  have hi0 : (0 : Int) ≤ (ix : Int) % (n : Int) := Int.emod_nonneg _ (by omega)
  have hi1 : (ix : Int) % (n : Int) < (n : Int) := Int.emod_lt_of_pos _ (by omega)
  clear hin h
  go_enter Try.func12, Try.ntmps12
  go_wp2_with (go_at_call 20; refine H.mono ?_; clear H; rintro e w1 ⟨rfl, q, rfl⟩)
  go_quiet (fail)
  go_wp2
  go_ret
  exact ⟨rfl, _, rfl⟩

set_option maxHeartbeats 400000 in
theorem play_some (Bb x B : Nat) (n : Nat) (p m : Int) (ad : Addr) (l : Nat) (w : World) (hx : x ≤ 18446744073709551615) (hn : n ≤ 65536) (hn0 : 0 < n) (hBB : B ≠ Bb)
    (h : BRow w Bb x (some ⟨B, 0, none⟩) n n p m) (hc : w.cell? ⟨B, x % n, none⟩ = some (.slice (some ad) l l)) (hf : w.frozen? ⟨B, x % n, none⟩ = false) :
    Calls Try.prog 17 #[.pointer (some ⟨Bb, 0, none⟩)] w fun e w' => e = .returned (.slice (some ad) l l) ∧
      ∃ q, w' = (((w.setCell ⟨B, x % n, none⟩ (.slice none 0 0)).setCell ⟨Bb, 0, none⟩ (.int .u64 (IntKind.u64.wrap ((x : Int) + 1)))).setCell ⟨Bb, 2, none⟩ (.int .i64 (wrap64 (p + 1)))).drewN q := by
  have h0 := h.c0
  have h1 := h.c1
  have h2 := h.c2
  have f0 := h.frozen 0
  have f2 := h.frozen 2
  have hne : ((n : Int) == 0) = false := by simp; omega
  have hi0 : (0 : Int) ≤ (x : Int) % (n : Int) := Int.emod_nonneg _ (by omega)
  have hi1 : (x : Int) % (n : Int) < (n : Int) := Int.emod_lt_of_pos _ (by omega)
  have hBB' : Bb ≠ B := fun e => hBB e.symm
  have hnil := fun (a : Option Addr) (n c : Nat) (w : World) => Lib.run_eql_slice_nil (P := Try.prog) w 24 5 a n c 0 0 Try.underlying24
  clear h
  go_enter Try.func17, Try.ntmps17
  go_wp2
  go_quiet (fail)
  go_wp2
  go_ret
  exact ⟨rfl, _, rfl⟩

set_option maxHeartbeats 400000 in
theorem play_nil (Bb x B : Nat) (n : Nat) (p m : Int) (w : World) (hx : x ≤ 18446744073709551615) (hn : n ≤ 65536) (hn0 : 0 < n) (hBB : B ≠ Bb)
    (h : BRow w Bb x (some ⟨B, 0, none⟩) n n p m) (hc : w.cell? ⟨B, x % n, none⟩ = some (.slice none 0 0)) (hf : w.frozen? ⟨B, x % n, none⟩ = false) :
    Calls Try.prog 17 #[.pointer (some ⟨Bb, 0, none⟩)] w fun e w' => e = .returned (.slice none 0 0) ∧
      ∃ q, w' = (((w.setCell ⟨B, x % n, none⟩ (.slice none 0 0)).setCell ⟨Bb, 0, none⟩ (.int .u64 (IntKind.u64.wrap ((x : Int) + 1)))).setCell ⟨Bb, 3, none⟩ (.int .i64 (wrap64 (m + 1)))).drewN q := by
  have h0 := h.c0
  have h1 := h.c1
  have h3 := h.c3
  have f0 := h.frozen 0
  have f3 := h.frozen 3
  have hne : ((n : Int) == 0) = false := by simp; omega
  have hi0 : (0 : Int) ≤ (x : Int) % (n : Int) := Int.emod_nonneg _ (by omega)
  have hi1 : (x : Int) % (n : Int) < (n : Int) := Int.emod_lt_of_pos _ (by omega)
  have hBB' : Bb ≠ B := fun e => hBB e.symm
  have hnil := fun (a : Option Addr) (n c : Nat) (w : World) => Lib.run_eql_slice_nil (P := Try.prog) w 24 5 a n c 0 0 Try.underlying24
  clear h
  go_enter Try.func17, Try.ntmps17
  go_wp2
  go_quiet (fail)
  go_wp2
  go_ret
  exact ⟨rfl, _, rfl⟩

end Go.Proofs.Qxb6605435a
