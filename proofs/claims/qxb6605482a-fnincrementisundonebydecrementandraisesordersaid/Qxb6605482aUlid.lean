/-
  SEAT b6605482a. 16 BYTES: load, store, increment, each by a contract.
-/
import Derived.Test.Qxb6605482aRows
import Derived.WalkKit
import Derived.WalkSpells
import Derived.WalkLawsBesides
import Derived.Deep.OwnRows
import Derived.Deep.QuietTactic
import Derived.BigQuiet
namespace Go.Proofs.Qxb6605482a
open Go.RowKit

def arr (b : Nat → Int) : Array Value := #[.int .u8 (b 0), .int .u8 (b 1), .int .u8 (b 2), .int .u8 (b 3), .int .u8 (b 4), .int .u8 (b 5), .int .u8 (b 6), .int .u8 (b 7),
  .int .u8 (b 8), .int .u8 (b 9), .int .u8 (b 10), .int .u8 (b 11), .int .u8 (b 12), .int .u8 (b 13), .int .u8 (b 14), .int .u8 (b 15)]

theorem arr_at (b : Nat → Int) {i : Nat} (hi : i < 16) : (arr b)[i]? = some (.int .u8 (b i)) := by
  rcases (show i = 0 ∨ i = 1 ∨ i = 2 ∨ i = 3 ∨ i = 4 ∨ i = 5 ∨ i = 6 ∨ i = 7 ∨ i = 8 ∨ i = 9 ∨ i = 10 ∨ i = 11 ∨ i = 12 ∨ i = 13 ∨ i = 14 ∨ i = 15 by omega) with rfl | rfl | rfl | rfl | rfl | rfl | rfl | rfl | rfl | rfl | rfl | rfl | rfl | rfl | rfl | rfl <;> rfl
theorem arr_row (w : World) (b : Nat → Int) (t : TypeId) : (w.alloc (.cells (arr b) t)).rowIs w.heap.size t 16 (fun i => .int .u8 (b i)) := World.rowIs_alloc w (arr b) t _ (fun _ hi => arr_at b hi)

/-- The number that k bytes from place s on say, the first the heaviest. -/
def H (b : Nat → Int) (s : Nat) : Nat → Int
  | 0 => 0
  | k + 1 => H b s k * 256 + b (s + k)

theorem H_bound (b : Nat → Int) (hb : ∀ i, 0 ≤ b i ∧ b i ≤ 255) (s : Nat) : ∀ k, 0 ≤ H b s k ∧ H b s k < 256 ^ k
  | 0 => by simp [H]
  | k + 1 => by
    have h1 := H_bound b hb s k
    have h2 := hb (s + k)
    have h3 : (256 : Int) ^ (k + 1) = 256 ^ k * 256 := Int.pow_succ _ _
    simp only [H]
    omega
theorem H_le7 (b : Nat → Int) (hb : ∀ i, 0 ≤ b i ∧ b i ≤ 255) (s k : Nat) (hk : k < 8) : 0 ≤ H b s k ∧ H b s k < 72057594037927936 := by
  have h := H_bound b hb s k
  have h2 : (256 : Int) ^ k ≤ 256 ^ 7 := by
    rcases (show k = 0 ∨ k = 1 ∨ k = 2 ∨ k = 3 ∨ k = 4 ∨ k = 5 ∨ k = 6 ∨ k = 7 by omega) with rfl | rfl | rfl | rfl | rfl | rfl | rfl | rfl <;> decide
  have h3 : (256 : Int) ^ 7 = 72057594037927936 := by decide
  omega
theorem H_step (b : Nat → Int) (hb : ∀ i, 0 ≤ b i ∧ b i ≤ 255) (s k : Nat) (hk : k < 8) : bits .or .u64 (IntKind.u64.wrap (H b s k * 256)) (b (s + k)) = H b s (k + 1) := by
  have h := H_le7 b hb s k hk
  have h2 := hb (s + k)
  have hw : IntKind.u64.wrap (H b s k * 256) = H b s k * 256 := by rw [IntKind.wrap_u64]; omega
  rw [hw]
  exact bits_join .u64 64 (by decide) (fun n h0 h1 => by rw [IntKind.wrap_u64]; omega) 8 _ _ (by omega) (by omega) (by omega) (by omega) (by omega) (by omega)
theorem ret_u64 {a c : Int} (h : a = c) : Value.int .u64 a = .int .u64 c := by rw [h]

set_option maxHeartbeats 400000 in
theorem load7 (b : Nat → Int) (w : World) (hb : ∀ i, 0 ≤ b i ∧ b i ≤ 255) : Calls Try.prog 7 #[.agg (arr b)] w fun e w' => e = .returned (.tuple #[.int .u64 (H b 0 8), .int .u64 (H b 8 8)]) ∧ w' = w.alloc (.cells (arr b) 22) := by
  have HB : Hid (∀ i, 0 ≤ b i ∧ b i ≤ 255) := hb
  clear hb
  go_enter Try.func7, Try.ntmps7
  go_wp2_with fail
  go_loop [4, 6] (fun h i => ∃ k : Nat, k ≤ 8 ∧ i = .int .i64 k ∧ h = .int .u64 (H b 0 k)) (fun _ i => 8 - (intOf i).toNat)
  case atStart => exact ⟨0, by omega, rfl, rfl⟩
  case round =>
    obtain ⟨k, hk, rfl, rfl⟩ := hrel
    by_cases hlt : k < 8
    · have hc := (arr_row w b 22).cell (i := k) (by omega)
      have hbk := HB.out k
      go_wp2_with fail
      go_round
      case rel => exact ⟨k + 1, by omega, by go_num, ret_u64 (by have := H_step b HB.out 0 k hlt; rwa [Nat.zero_add] at this)⟩
      case measure => simp [intOf]; omega
    · obtain rfl : k = 8 := by omega
      go_wp2_with fail
      go_loop [5, 7] (fun h i => ∃ k : Nat, k ≤ 8 ∧ i = .int .i64 (8 + k) ∧ h = .int .u64 (H b 8 k)) (fun _ i => 16 - (intOf i).toNat)
      case atStart => exact ⟨0, by omega, rfl, rfl⟩
      case round =>
        obtain ⟨k, hk, rfl, rfl⟩ := hrel
        by_cases hlt : k < 8
        · have hc := (arr_row w b 22).cell (i := 8 + k) (by omega)
          have hbk := HB.out (8 + k)
          go_wp2_with fail
          go_round
          case rel => exact ⟨k + 1, by omega, by go_num, ret_u64 (H_step b HB.out 8 k hlt)⟩
          case measure => simp [intOf]; omega
        · obtain rfl : k = 8 := by omega
          go_wp2_with fail
          go_ret2
          exact ⟨rfl, rfl⟩
end Go.Proofs.Qxb6605482a
