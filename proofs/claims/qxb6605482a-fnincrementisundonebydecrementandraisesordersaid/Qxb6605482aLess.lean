/-
  SEAT b6605482a. zzAllFF and zzLess.
-/
import Derived.Test.Qxb6605482aNum
namespace Go.Proofs.Qxb6605482a
open Go.RowKit

set_option maxHeartbeats 400000 in
theorem allFF10_true (b : Nat → Int) (w : World) (h255 : ∀ j, j < 16 → b j = 255) :
    Calls Try.prog 10 #[.agg (arr b)] w fun e w' => e = .returned (.bool true) ∧ w' = w.alloc (.cells (arr b) 22) := by
  have HB : Hid (∀ j, j < 16 → b j = 255) := h255
  clear h255
  go_enter Try.func10, Try.ntmps10
  go_wp2_with fail
  go_loop [3] (fun i => ∃ k : Nat, k ≤ 16 ∧ i = .int .i64 k) (fun i => 16 - (intOf i).toNat)
  case atStart => exact ⟨0, by omega, rfl⟩
  case round =>
    obtain ⟨k, hk, rfl⟩ := hrel
    by_cases hlt : k < 16
    · have hc := (arr_row w b 22).cell (i := k) (by omega)
      rw [HB.out k hlt] at hc
      go_wp2_with fail
      go_round
      case rel => exact ⟨k + 1, by omega, by go_num⟩
      case measure => simp [intOf]; omega
    · obtain rfl : k = 16 := by omega
      go_wp2_with fail
      go_ret
      exact ⟨rfl, rfl⟩

set_option maxHeartbeats 400000 in
theorem allFF10_false (b : Nat → Int) (w : World) (m : Nat) (hm : m < 16) (hne : b m ≠ 255) :
    Calls Try.prog 10 #[.agg (arr b)] w fun e w' => e = .returned (.bool false) ∧ w' = w.alloc (.cells (arr b) 22) := by
  have HM : Hid (m < 16 ∧ b m ≠ 255) := ⟨hm, hne⟩
  clear hm hne
  go_enter Try.func10, Try.ntmps10
  go_wp2_with fail
  go_loop [3] (fun i => ∃ k : Nat, k ≤ m ∧ i = .int .i64 k) (fun i => 16 - (intOf i).toNat)
  case atStart => exact ⟨0, by omega, rfl⟩
  case round =>
    obtain ⟨k, hk, rfl⟩ := hrel
    have hlt : k < 16 := by have := HM.out.1; omega
    have hc := (arr_row w b 22).cell (i := k) (by omega)
    by_cases hz : b k = 255
    · have hkm : k + 1 ≤ m := by
        by_cases e : k = m
        · subst e; exact absurd hz HM.out.2
        · omega
      rw [hz] at hc
      clear hz hk
      go_wp2_with fail
      go_round
      case rel => exact ⟨k + 1, hkm, by go_num⟩
      case measure => simp [intOf]; omega
    · have hq : (b k != 255) = true := by rw [bne_iff_ne]; exact hz
      clear hz hk
      go_wp2_with fail
      go_ret
      exact ⟨rfl, rfl⟩

/-- Both arguments in blocks of their own. -/
structure Duo (w0 w : World) (b c : Nat → Int) : Prop where
  one : w.rowIs w0.heap.size 22 16 (fun i => .int .u8 (b i))
  two : w.rowIs (w0.heap.size + 1) 22 16 (fun i => .int .u8 (c i))
  below : Below w0.heap.size w0 w
theorem Duo.start (w : World) (b c : Nat → Int) : Duo w ((w.alloc (.cells (arr b) 22)).alloc (.cells (arr c) 22)) b c := by
  refine ⟨(arr_row w b 22).alloc _, ?_, ((Below.refl _ _).alloc (Nat.le_refl _) _).alloc (by simp) _⟩
  have h := arr_row (w.alloc (.cells (arr b) 22)) c 22
  rwa [show (w.alloc (.cells (arr b) 22)).heap.size = w.heap.size + 1 from by simp] at h
theorem Duo.drewN {w0 w : World} {b c : Nat → Int} (h : Duo w0 w b c) (q : Nat) : Duo w0 (w.drewN q) b c := ⟨h.one, h.two, ⟨h.below.os, h.below.tape, h.below.output, h.below.size, h.below.block⟩⟩

set_option maxHeartbeats 400000 in
theorem less11 (b c : Nat → Int) (w : World) (m : Nat) (hm : m < 16) (hsame : ∀ j, j < m → c j = b j) (hlss : b m < c m) :
    Calls Try.prog 11 #[.agg (arr b), .agg (arr c)] w fun e w' => e = .returned (.bool true) ∧ Below w.heap.size w w' := by
  have HM : Hid (m < 16 ∧ (∀ j, j < m → c j = b j) ∧ b m < c m) := ⟨hm, hsame, hlss⟩
  clear hm hsame hlss
  go_enter Try.func11, Try.ntmps11
  go_wp2_with fail
  go_loopw [5] (fun i wr => ∃ k : Nat, k ≤ m ∧ i = .int .i64 k ∧ Duo w wr b c) (fun i _ => 16 - (intOf i).toNat)
  case atStart => exact ⟨0, by omega, rfl, Duo.start w b c⟩
  case round =>
    obtain ⟨k, hk, rfl, hd⟩ := hrel
    have hlt : k < 16 := by have := HM.out.1; omega
    have hc1 := hd.one.cell hlt
    have hc2 := hd.two.cell hlt
    have HD : Hid (Duo w wr b c) := hd
    clear hd
    by_cases e : k = m
    · subst e
      have hq : (b k != c k) = true := by rw [bne_iff_ne]; have := HM.out.2.2; omega
      have hl : decide (b k < c k) = true := decide_eq_true HM.out.2.2
      clear hk
      go_wp2
      go_quiet (fail)
      go_wp2
      go_quiet (fail)
      go_wp2
      go_ret
      exact ⟨rfl, ((HD.out.drewN _).drewN _).below⟩
    · have hkm : k < m := by omega
      rw [HM.out.2.1 k hkm] at hc2
      clear hk e
      go_wp2
      go_quiet (fail)
      go_wp2
      go_roundw
      case rel => exact ⟨k + 1, hkm, by go_num, HD.out.drewN _⟩
      case measure => simp [intOf]; omega
end Go.Proofs.Qxb6605482a
