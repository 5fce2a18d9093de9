/-
  SEAT b6605435a. THE LEAVES: the bounds' tests (zzBytes.., zzTooBig), the comparison of byte slices, the clones, the window: each by a contract.
-/
import Derived.Test.Qxb6605435aRows
import Derived.WalkKit
import Derived.WalkSpells
import Derived.WalkLawsBesides
import Derived.Deep.OwnRows
import Derived.Deep.QuietTactic
import Derived.BigQuiet
namespace Go.Proofs.Qxb6605435a
open Go.RowKit

/-- WHAT THE WALKS ARE TOLD OF 'cells [][]byte': cell i holds the slice A i, of length L i. -/
def CellsIn (w : World) (ao : Option Addr) (n : Nat) (A : Nat → Option Addr) (L C : Nat → Nat) : Prop :=
  ∀ i, i < n → ∃ b off, ao = some ⟨b, off, none⟩ ∧ w.cell? ⟨b, off + i, none⟩ = some (.slice (A i) (L i) (C i)) ∧ L i ≤ 9223372036854775807

/-- It hands back one bool, whichever. (A name: the walk's simp would part an open '∃' over Bool.) -/
def RetBool (e : Ending) : Prop := ∃ b, e = .returned (.bool b)
theorem retBool (b : Bool) : RetBool (.returned (.bool b)) := ⟨b, rfl⟩

set_option maxHeartbeats 400000 in
theorem bytes7 (nx pl ms ix : Int) (ao : Option Addr) (n c : Nat) (co : Option Addr) (m mc : Nat) (A : Nat → Option Addr) (L C : Nat → Nat) (w : World)
    (hn : n ≤ 9223372036854775807) (hm : m ≤ 9223372036854775807) (hA : CellsIn w ao n A L C) :
    Calls Try.prog 7 #[.int .u64 nx, .slice ao n c, .int .i64 pl, .int .i64 ms, .int .u64 ix, .slice co m mc] w fun e w' => RetBool e ∧ w' = w := by
  go_enter Try.func7, Try.ntmps7
  go_wp2
  · go_ret
    exact ⟨retBool _, rfl⟩
  · go_loop [13, 14] (fun t i => ∃ k : Nat, ∃ z : Int, k ≤ n ∧ i = .int .i64 k ∧ t = .int .i64 z ∧ 0 ≤ z ∧ z ≤ 1048576) (fun _ i => n - (intOf i).toNat)
    case atStart => exact ⟨0, n, Nat.zero_le _, rfl, rfl, by omega, by omega⟩
    case round =>
      obtain ⟨k, z, hk, rfl, rfl, hz0, hz1⟩ := hrel
      by_cases hlt : k < n
      · obtain ⟨b, off, rfl, hc, hl⟩ := hA k hlt
        go_wp2
        · go_ret
          exact ⟨retBool _, rfl⟩
        · go_ret
          exact ⟨retBool _, rfl⟩
        · go_round
          case rel => exact ⟨k + 1, z + L k, by omega, by go_num, by go_num, by omega, by omega⟩
          case measure => simp [intOf]; omega
      · go_wp2
        all_goals
          go_ret
          exact ⟨retBool _, rfl⟩
set_option maxHeartbeats 400000 in
theorem bytes15 (nx pl ms ix : Int) (ao : Option Addr) (n c : Nat) (co : Option Addr) (m mc : Nat) (A : Nat → Option Addr) (L C : Nat → Nat) (w : World)
    (hn : n ≤ 9223372036854775807) (hm : m ≤ 9223372036854775807) (hA : CellsIn w ao n A L C) :
    Calls Try.prog 15 #[.int .u64 nx, .slice ao n c, .int .i64 pl, .int .i64 ms, .int .u64 ix, .slice co m mc] w fun e w' => RetBool e ∧ w' = w := by
  go_enter Try.func15, Try.ntmps15
  go_wp2
  · go_ret
    exact ⟨retBool _, rfl⟩
  · go_loop [13, 14] (fun t i => ∃ k : Nat, ∃ z : Int, k ≤ n ∧ i = .int .i64 k ∧ t = .int .i64 z ∧ 0 ≤ z ∧ z ≤ 1048576) (fun _ i => n - (intOf i).toNat)
    case atStart => exact ⟨0, n, Nat.zero_le _, rfl, rfl, by omega, by omega⟩
    case round =>
      obtain ⟨k, z, hk, rfl, rfl, hz0, hz1⟩ := hrel
      by_cases hlt : k < n
      · obtain ⟨b, off, rfl, hc, hl⟩ := hA k hlt
        go_wp2
        · go_ret
          exact ⟨retBool _, rfl⟩
        · go_ret
          exact ⟨retBool _, rfl⟩
        · go_round
          case rel => exact ⟨k + 1, z + L k, by omega, by go_num, by go_num, by omega, by omega⟩
          case measure => simp [intOf]; omega
      · go_wp2
        all_goals
          go_ret
          exact ⟨retBool _, rfl⟩
set_option maxHeartbeats 400000 in
theorem bytes18 (nx pl ms : Int) (ao : Option Addr) (n c : Nat) (A : Nat → Option Addr) (L C : Nat → Nat) (w : World)
    (hn : n ≤ 9223372036854775807) (hA : CellsIn w ao n A L C) :
    Calls Try.prog 18 #[.int .u64 nx, .slice ao n c, .int .i64 pl, .int .i64 ms] w fun e w' => RetBool e ∧ w' = w := by
  go_enter Try.func18, Try.ntmps18
  go_wp2
  · go_ret
    exact ⟨retBool _, rfl⟩
  · go_loop [9, 10] (fun t i => ∃ k : Nat, ∃ z : Int, k ≤ n ∧ i = .int .i64 k ∧ t = .int .i64 z ∧ 0 ≤ z ∧ z ≤ 1048576) (fun _ i => n - (intOf i).toNat)
    case atStart => exact ⟨0, n, Nat.zero_le _, rfl, rfl, by omega, by omega⟩
    case round =>
      obtain ⟨k, z, hk, rfl, rfl, hz0, hz1⟩ := hrel
      by_cases hlt : k < n
      · obtain ⟨b, off, rfl, hc, hl⟩ := hA k hlt
        go_wp2
        · go_ret
          exact ⟨retBool _, rfl⟩
        · go_ret
          exact ⟨retBool _, rfl⟩
        · go_round
          case rel => exact ⟨k + 1, z + L k, by omega, by go_num, by go_num, by omega, by omega⟩
          case measure => simp [intOf]; omega
      · go_wp2
        all_goals
          go_ret
          exact ⟨retBool _, rfl⟩
set_option maxHeartbeats 400000 in
theorem bytes19 (nx pl ms : Int) (ao : Option Addr) (n c : Nat) (A : Nat → Option Addr) (L C : Nat → Nat) (w : World)
    (hn : n ≤ 9223372036854775807) (hA : CellsIn w ao n A L C) :
    Calls Try.prog 19 #[.int .u64 nx, .slice ao n c, .int .i64 pl, .int .i64 ms] w fun e w' => RetBool e ∧ w' = w := by
  go_enter Try.func19, Try.ntmps19
  go_wp2
  · go_ret
    exact ⟨retBool _, rfl⟩
  · go_loop [9, 10] (fun t i => ∃ k : Nat, ∃ z : Int, k ≤ n ∧ i = .int .i64 k ∧ t = .int .i64 z ∧ 0 ≤ z ∧ z ≤ 1048576) (fun _ i => n - (intOf i).toNat)
    case atStart => exact ⟨0, n, Nat.zero_le _, rfl, rfl, by omega, by omega⟩
    case round =>
      obtain ⟨k, z, hk, rfl, rfl, hz0, hz1⟩ := hrel
      by_cases hlt : k < n
      · obtain ⟨b, off, rfl, hc, hl⟩ := hA k hlt
        go_wp2
        · go_ret
          exact ⟨retBool _, rfl⟩
        · go_ret
          exact ⟨retBool _, rfl⟩
        · go_round
          case rel => exact ⟨k + 1, z + L k, by omega, by go_num, by go_num, by omega, by omega⟩
          case measure => simp [intOf]; omega
      · go_wp2
        all_goals
          go_ret
          exact ⟨retBool _, rfl⟩
/-- What zzTooBig hands back: true; or false, and then the bounds hold. -/
def TB (e : Ending) (n : Nat) (L : Nat → Nat) (x : Int) : Prop := e = .returned (.bool true) ∨ (e = .returned (.bool false) ∧ n ≤ 65536 ∧ x ≤ 1048576 ∧ ∀ i, i < n → L i ≤ 1048576)
theorem tb_true (n : Nat) (L : Nat → Nat) (x : Int) : TB (.returned (.bool true)) n L x := Or.inl rfl
theorem tb_false (n : Nat) (L : Nat → Nat) (x : Int) (h1 : n ≤ 65536) (h2 : x ≤ 1048576) (h3 : ∀ i, i < n → L i ≤ 1048576) : TB (.returned (.bool false)) n L x := Or.inr ⟨rfl, h1, h2, h3⟩
theorem tb_any (b : Bool) (n : Nat) (L : Nat → Nat) (x : Int) (h1 : n ≤ 65536) (h2 : x ≤ 1048576) (h3 : ∀ i, i < n → L i ≤ 1048576) : TB (.returned (.bool b)) n L x := by
  cases b
  · exact tb_false n L x h1 h2 h3
  · exact tb_true n L x
theorem le_step {L : Nat → Nat} {k M : Nat} (h : ∀ i, i < k → L i ≤ M) (hk : L k ≤ M) : ∀ i, i < k + 1 → L i ≤ M := fun i hi => by
  by_cases e : i = k
  · subst e; exact hk
  · exact h i (by omega)

set_option maxHeartbeats 400000 in
theorem tooBig (x : Int) (ao : Option Addr) (n c : Nat) (A : Nat → Option Addr) (L C : Nat → Nat) (w : World)
    (hn : n ≤ 9223372036854775807) (hx0 : 0 ≤ x) (hx : x ≤ 9223372036854775807) (hA : CellsIn w ao n A L C) :
    Calls Try.prog 8 #[.slice ao n c, .int .i64 x] w fun e w' => TB e n L x ∧ w' = w := by
  by_cases h1 : 65536 < n
  · have hd : decide ((65536 : Int) < (n : Int)) = true := decide_eq_true (by omega)
    go_enter Try.func8, Try.ntmps8
    go_wp2
    go_ret
    exact ⟨tb_true _ _ _, rfl⟩
  by_cases h2 : 1048576 < x
  · have hd : decide ((65536 : Int) < (n : Int)) = false := decide_eq_false (by omega)
    have hd2 : decide ((1048576 : Int) < x) = true := decide_eq_true (by omega)
    go_enter Try.func8, Try.ntmps8
    go_wp2
    go_ret
    exact ⟨tb_true _ _ _, rfl⟩
  have hd : decide ((65536 : Int) < (n : Int)) = false := decide_eq_false (by omega)
  have hd2 : decide ((1048576 : Int) < x) = false := decide_eq_false (by omega)
  have hn' : n ≤ 65536 := by omega
  have hx' : x ≤ 1048576 := by omega
  clear h1 h2
  go_enter Try.func8, Try.ntmps8
  go_wp2
  go_loop [5, 6] (fun t i => ∃ k : Nat, ∃ z : Int, k ≤ n ∧ i = .int .i64 k ∧ t = .int .i64 z ∧ 0 ≤ z ∧ z ≤ 2621440 ∧ ∀ i, i < k → L i ≤ 1048576) (fun _ i => n - (intOf i).toNat)
  case atStart => exact ⟨0, x + 24 * n, Nat.zero_le _, rfl, rfl, by omega, by omega, fun i hi => absurd hi (Nat.not_lt_zero _)⟩
  case round =>
    obtain ⟨k, z, hk, rfl, rfl, hz0, hz1, hL⟩ := hrel
    by_cases hlt : k < n
    · obtain ⟨b, off, rfl, hc, hl⟩ := hA k hlt
      have HL : Hid (∀ i, i < k → L i ≤ 1048576) := hL
      clear hL hA
      go_wp2
      · go_ret
        exact ⟨tb_true _ _ _, rfl⟩
      · go_ret
        exact ⟨tb_true _ _ _, rfl⟩
      · go_round
        case rel => exact ⟨k + 1, z + L k, by omega, by go_num, by go_num, by omega, by omega, le_step HL.out (by omega)⟩
        case measure => simp [intOf]; omega
    · obtain rfl : k = n := by omega
      have HL : Hid (∀ i, i < k → L i ≤ 1048576) := hL
      clear hL
      go_wp2
      all_goals
        go_ret
        exact ⟨tb_any _ _ _ _ hn' hx' HL.out, rfl⟩

end Go.Proofs.Qxb6605435a
