/-
  SEAT b6605435aD. THE LEAVES: the bound, the digit form, the clone, the comparison.
-/
import Derived.Test.Qxb6605435aDoorRows
import Derived.Test.Qxb6605435aDoorPlain
import Derived.WalkKit
import Derived.WalkSpells
import Derived.WalkLawsBesides
import Derived.Deep.OwnRows
import Derived.Deep.QuietTactic
import Derived.BigQuiet
namespace Go.Proofs.Qxb6605435aDoor
open Go.RowKit

theorem Tryd.info3 : (Tryd.prog.info? 3).map (fun i => (i.zero, i.size, i.bytes)) = some (some (.int .i64 0), 1, 8) := by kernel_rfl

/-- It hands back one bool, whichever. -/
def RetBool (e : Ending) : Prop := ∃ b, e = .returned (.bool b)
theorem retBool (b : Bool) : RetBool (.returned (.bool b)) := ⟨b, rfl⟩
theorem ret_bool {a b : Bool} (h : a = b) : Ending.returned (.bool a) = .returned (.bool b) := by rw [h]

set_option maxHeartbeats 400000 in
theorem bytes4 (ao : Option Addr) (n c : Nat) (co : Option Addr) (m mc : Nat) (w : World) (hn : n ≤ 9223372036854775807) (hm : m ≤ 9223372036854775807) :
    Calls Tryd.prog 4 #[.slice ao n c, .slice co m mc] w fun e w' => RetBool e ∧ w' = w := by
  go_enter Tryd.func4, Tryd.ntmps4
  go_wp2
  all_goals
    go_ret
    exact ⟨retBool _, rfl⟩

/-- WHAT THE WALKS ARE TOLD OF A []int THAT CAME IN. -/
def IntsIn (w : World) (ao : Option Addr) (n : Nat) (Z : Nat → Int) : Prop := ∀ i, i < n → ∃ b off, ao = some ⟨b, off, none⟩ ∧ w.cell? ⟨b, off + i, none⟩ = some (.int .i64 (Z i))

/-- What zzDigitForm hands back. -/
def DF (e : Ending) (n : Nat) (Z : Nat → Int) : Prop := e = .returned (.bool false) ∨ (e = .returned (.bool true) ∧ Form Z n)
theorem df_false (n : Nat) (Z : Nat → Int) : DF (.returned (.bool false)) n Z := Or.inl rfl
theorem df_true {n : Nat} {Z : Nat → Int} (h : Form Z n) : DF (.returned (.bool true)) n Z := Or.inr ⟨rfl, h⟩
theorem digit_snoc {Z : Nat → Int} {k : Nat} (h : ∀ i, i < k → 0 ≤ Z i ∧ Z i ≤ 9) (h0 : 0 ≤ Z k) (h9 : Z k ≤ 9) : ∀ i, i < k + 1 → 0 ≤ Z i ∧ Z i ≤ 9 := fun i hi => by
  by_cases e : i = k
  · subst e; exact ⟨h0, h9⟩
  · exact h i (by omega)

set_option maxHeartbeats 400000 in
theorem digit5 (ao : Option Addr) (n c : Nat) (Z : Nat → Int) (w : World) (hn : n ≤ 9223372036854775807) (hA : IntsIn w ao n Z) :
    Calls Tryd.prog 5 #[.slice ao n c] w fun e w' => DF e n Z ∧ w' = w := by
  by_cases h9 : 9 < n
  · have HF : Hid (Form Z n) := Or.inl h9
    clear hA
    go_enter Tryd.func5, Tryd.ntmps5
    go_wp2
    go_ret
    exact ⟨df_true HF.out, rfl⟩
  · have h9' : n ≤ 9 := by omega
    clear h9
    go_enter Tryd.func5, Tryd.ntmps5
    go_wp2
    go_loop [3] (fun i => ∃ k : Nat, k ≤ n ∧ i = .int .i64 k ∧ ∀ i, i < k → 0 ≤ Z i ∧ Z i ≤ 9) (fun i => n - (intOf i).toNat)
    case atStart => exact ⟨0, Nat.zero_le _, rfl, fun i hi => absurd hi (Nat.not_lt_zero _)⟩
    case round =>
      obtain ⟨k, hk, rfl, hd⟩ := hrel
      have HD : Hid (∀ i, i < k → 0 ≤ Z i ∧ Z i ≤ 9) := hd
      clear hd
      by_cases hlt : k < n
      · obtain ⟨b, off, rfl, hc⟩ := hA k hlt
        clear hA
        by_cases hz : Z k < 0
        · have hq : decide (Z k < 0) = true := decide_eq_true hz
          go_wp2
          go_ret
          exact ⟨df_false _ _, rfl⟩
        · have hq : decide (Z k < 0) = false := decide_eq_false hz
          by_cases hz9 : 9 < Z k
          · have hq9 : decide (9 < Z k) = true := decide_eq_true hz9
            go_wp2
            go_ret
            exact ⟨df_false _ _, rfl⟩
          · have hq9 : decide (9 < Z k) = false := decide_eq_false hz9
            have HS : Hid (∀ i, i < k + 1 → 0 ≤ Z i ∧ Z i ≤ 9) := digit_snoc HD.out (by omega) (by omega)
            clear hz hz9 HD
            go_wp2
            go_round
            case rel => exact ⟨k + 1, by omega, by go_num, HS.out⟩
            case measure => simp [intOf]; omega
      · obtain rfl : k = n := by omega
        have HF : Hid (Form Z k) := Or.inr HD.out
        go_wp2
        go_ret
        exact ⟨df_true HF.out, rfl⟩

/-- A SLICE OF THE LAW's OWN: nil, or a whole row of the numbers Z. -/
def OwnI (w : World) (ao : Option Addr) (n : Nat) (Z : Nat → Int) : Prop := (ao = none ∧ n = 0) ∨ ∃ g, ao = some ⟨g, 0, none⟩ ∧ w.rowIs g 3 n (fun j => .int .i64 (Z j))
theorem OwnI.below {w w' : World} {ao : Option Addr} {n B : Nat} {Z : Nat → Int} (h : OwnI w ao n Z) (hb : Below B w w') (hB : w.heap.size ≤ B) : OwnI w' ao n Z := by
  rcases h with h | ⟨g, hg, hr⟩
  · exact Or.inl h
  · exact Or.inr ⟨g, hg, hr.of_block (hb.block g (Nat.lt_of_lt_of_le hr.lt hB))⟩
theorem OwnI.cell {w : World} {ao : Option Addr} {n : Nat} {Z : Nat → Int} (h : OwnI w ao n Z) {i : Nat} (hi : i < n) : ∃ g, ao = some ⟨g, 0, none⟩ ∧ w.cell? ⟨g, i, none⟩ = some (.int .i64 (Z i)) := by
  rcases h with ⟨_, h⟩ | ⟨g, hg, hr⟩
  · omega
  · exact ⟨g, hg, hr.cell hi⟩

/-- The clone's row with k places filled. -/
def cpy (Z : Nat → Int) (k : Nat) : Nat → Value := fun j => .int .i64 (if j < k then Z j else 0)
theorem cpy_step {w : World} {g n k : Nat} {Z : Nat → Int} (h : w.rowIs g 3 n (cpy Z k)) : (w.setCell ⟨g, k, none⟩ (.int .i64 (Z k))).rowIs g 3 n (cpy Z (k + 1)) := by
  refine (h.set k _).congr (fun j _ => ?_)
  unfold cpy
  by_cases e : j = k
  · subst e; simp
  · rw [if_neg e]
    by_cases h2 : j < k
    · rw [if_pos h2, if_pos (by omega)]
    · rw [if_neg h2, if_neg (by omega)]

/-- What zzCloneInts hands back. -/
def Cloned (w : World) (n : Nat) (Z : Nat → Int) (e : Ending) (w' : World) : Prop := ∃ bo, e = .returned (.slice bo n n) ∧ OwnI w' bo n Z ∧ Below w.heap.size w w'
theorem cloned_nil (w : World) (Z : Nat → Int) : Cloned w 0 Z (.returned (.slice none 0 0)) w := ⟨none, rfl, Or.inl ⟨rfl, rfl⟩, Below.refl _ _⟩
theorem cloned_row {w w' : World} {n : Nat} {Z : Nat → Int} (h : w'.rowIs w.heap.size 3 n (cpy Z n)) (hb : Below w.heap.size w w') : Cloned w n Z (.returned (.slice (some ⟨w.heap.size, 0, none⟩) n n)) w' :=
  ⟨_, rfl, Or.inr ⟨w.heap.size, rfl, h.congr (fun j hj => by unfold cpy; rw [if_pos hj])⟩, hb⟩

set_option maxHeartbeats 400000 in
theorem clone6 (ao : Option Addr) (n c : Nat) (Z : Nat → Int) (w : World) (hn : n ≤ 65536) (hnone : ao = none → n = 0 ∧ c = 0) (hA : IntsIn w ao n Z) :
    Calls Tryd.prog 6 #[.slice ao n c] w fun e w' => Cloned w n Z e w' := by
  have hnil := fun (a : Option Addr) (n c : Nat) (w : World) => Lib.run_eql_slice_nil (P := Tryd.prog) w 22 3 a n c 0 0 Tryd.underlying22
  rcases ao with _ | ad
  · obtain ⟨rfl, rfl⟩ := hnone rfl
    clear hnone hA
    go_enter Tryd.func6, Tryd.ntmps6
    go_wp2
    go_ret
    exact cloned_nil w Z
  · clear hnone
    have hmk := run_make_row' (P := Tryd.prog) 22 3 (.int .i64 0) 8 Tryd.underlying22 Tryd.info3 rfl .i64 .i64 n (by omega) (by omega)
    go_enter Tryd.func6, Tryd.ntmps6
    go_wp2
    go_loopw [4] (fun i wr => ∃ k : Nat, k ≤ n ∧ i = .int .i64 k ∧ wr.rowIs w.heap.size 3 n (cpy Z k) ∧ Below w.heap.size w wr) (fun i _ => n - (intOf i).toNat)
    case atStart => exact ⟨0, Nat.zero_le _, rfl, (World.rowIs_made w _ n 3).congr (fun j _ => by simp [cpy]), (Below.refl _ _).alloc (Nat.le_refl _) _⟩
    case round =>
      obtain ⟨k, hk, rfl, hrow, hbel⟩ := hrel
      by_cases hlt : k < n
      · obtain ⟨b, off, e, hc⟩ := hA k hlt
        obtain rfl : ad = ⟨b, off, none⟩ := by simpa using e
        have hc' : wr.cell? ⟨b, off + k, none⟩ = some (.int .i64 (Z k)) := (hbel.cell (p := ⟨b, off + k, none⟩) (World.block_lt_of_cell? _ _ hc)).trans hc
        have HR : Hid ((wr.setCell ⟨w.heap.size, k, none⟩ (.int .i64 (Z k))).rowIs w.heap.size 3 n (cpy Z (k + 1)) ∧ Below w.heap.size w (wr.setCell ⟨w.heap.size, k, none⟩ (.int .i64 (Z k)))) :=
          ⟨cpy_step hrow, hbel.setCell (Nat.le_refl _) _⟩
        have ht : ∃ z, wr.cell? ⟨w.heap.size, k, none⟩ = some (.int .i64 z) := ⟨_, hrow.cell hlt⟩
        obtain ⟨z, ht⟩ := ht
        have hf : wr.frozen? ⟨w.heap.size, k, none⟩ = false := hrow.frozen k
        clear hrow hbel hA hmk hnil hc e
        go_wp2
        go_roundw
        case rel => exact ⟨k + 1, by omega, by go_num, HR.out.1, HR.out.2⟩
        case measure => simp [intOf]; omega
      · obtain rfl : n = k := by omega
        go_wp2
        go_ret
        exact cloned_row hrow hbel

/-- What zzIntsEqual answers. -/
def IE (e : Ending) (Z : Nat → Int) (n : Nat) (Y : Nat → Int) (m : Nat) : Prop := (e = .returned (.bool true) ∧ Same Z n Y m) ∨ (e = .returned (.bool false) ∧ ¬ Same Z n Y m)
theorem ie_true {Z : Nat → Int} {n : Nat} {Y : Nat → Int} {m : Nat} (h : Same Z n Y m) : IE (.returned (.bool true)) Z n Y m := Or.inl ⟨rfl, h⟩
theorem ie_false {Z : Nat → Int} {n : Nat} {Y : Nat → Int} {m : Nat} (h : ¬ Same Z n Y m) : IE (.returned (.bool false)) Z n Y m := Or.inr ⟨rfl, h⟩
theorem same_snoc {Z Y : Nat → Int} {k : Nat} (h : ∀ i, i < k → Z i = Y i) (hk : Z k = Y k) : ∀ i, i < k + 1 → Z i = Y i := fun i hi => by
  by_cases e : i = k
  · subst e; exact hk
  · exact h i (by omega)

set_option maxHeartbeats 400000 in
theorem equal9 (ao bo : Option Addr) (n m : Nat) (Z Y : Nat → Int) (w : World) (hn : n ≤ 65536) (hm : m ≤ 65536) (hZ : OwnI w ao n Z) (hY : OwnI w bo m Y) :
    Calls Tryd.prog 9 #[.slice ao n n, .slice bo m m] w fun e w' => IE e Z n Y m ∧ ∃ q, w' = w.drewN q := by
  by_cases hnm : n = m
  · subst hnm
    have hq : ((n : Int) != (n : Int)) = false := by simp
    go_enter Tryd.func9, Tryd.ntmps9
    go_wp2
    go_loopw [5] (fun i wr => ∃ k q : Nat, k ≤ n ∧ i = .int .i64 k ∧ (∀ i, i < k → Z i = Y i) ∧ wr = w.drewN q) (fun i _ => n - (intOf i).toNat)
    case atStart => exact ⟨0, 0, Nat.zero_le _, rfl, fun i hi => absurd hi (Nat.not_lt_zero _), rfl⟩
    case round =>
      obtain ⟨k, q, hk, rfl, hs, rfl⟩ := hrel
      have HS : Hid (∀ i, i < k → Z i = Y i) := hs
      clear hs
      by_cases hlt : k < n
      · obtain ⟨g, rfl, hc1⟩ := hZ.cell hlt
        obtain ⟨g', rfl, hc2⟩ := hY.cell hlt
        have hltI : (k : Int) < (n : Int) := by omega
        by_cases hzy : Z k = Y k
        · have HS' : Hid (∀ i, i < k + 1 → Z i = Y i) := same_snoc HS.out hzy
          rw [hzy] at hc1
          clear hZ hY hzy HS hq
          go_wp2
          go_quiet (fail)
          go_wp2
          go_roundw
          case rel => exact ⟨k + 1, _, by omega, by go_num, HS'.out, rfl⟩
          case measure => simp [intOf]; omega
        · have HN : Hid (¬ Same Z n Y n) := fun h => hzy (h.2 k hlt)
          have hqq : (Z k != Y k) = true := by rw [bne_iff_ne]; exact hzy
          clear hZ hY hzy HS hq
          go_wp2
          go_quiet (fail)
          go_wp2
          go_ret
          exact ⟨ie_false HN.out, q + nq, by rw [World.drewN_drewN]⟩
      · obtain rfl : k = n := by omega
        have HT : Hid (Same Z k Y k) := ⟨rfl, HS.out⟩
        clear hZ hY HS
        go_wp2
        go_ret
        exact ⟨ie_true HT.out, _, rfl⟩
  · have HN : Hid (¬ Same Z n Y m) := fun h => hnm h.1
    have hq : ((n : Int) != (m : Int)) = true := by rw [bne_iff_ne]; omega
    clear hnm hZ hY
    go_enter Tryd.func9, Tryd.ntmps9
    go_wp2
    go_ret
    exact ⟨ie_false HN.out, 0, rfl⟩
end Go.Proofs.Qxb6605435aDoor
