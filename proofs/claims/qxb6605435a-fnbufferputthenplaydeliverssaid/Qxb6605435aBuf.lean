/-
  SEAT b6605435a. THE WINDOW AND THE BUFFER's OWN METHODS, each by a contract.
-/
import Derived.Test.Qxb6605435aOwn
namespace Go.Proofs.Qxb6605435a
open Go.RowKit

/-- The window's row with k places filled. -/
def winF (F : Nat → Value) (x n k : Nat) : Nat → Value := fun j => if j < k then F ((x + j) % n) else .slice none 0 0
theorem winF_step {w : World} {N n k x : Nat} {F : Nat → Value} (h : CRow w N n (winF F x n k)) {v : Value} (hv : OwnV w v) (e : F ((x + k) % n) = v) : CRow (w.setCell ⟨N, k, none⟩ v) N n (winF F x n (k + 1)) := by
  have h1 := h.set k hv
  have ee : ∀ j, j < n → (if j = k then v else winF F x n k j) = winF F x n (k + 1) j := fun j _ => by
    unfold winF
    by_cases e1 : j = k
    · subst e1; rw [if_pos rfl, if_pos (by omega), e]
    · rw [if_neg e1]
      by_cases h2 : j < k
      · rw [if_pos h2, if_pos (by omega)]
      · rw [if_neg h2, if_neg (by omega)]
  exact ⟨h1.row.congr ee, fun i hi => by rw [← ee i hi]; exact h1.own i hi⟩

set_option maxHeartbeats 400000 in
theorem window (x B n : Nat) (F : Nat → Value) (w : World) (hx : x ≤ 18446744073709551615) (hn0 : 0 < n) (hn : n ≤ 65536) (hF : CRow w B n F) :
    Calls Try.prog 16 #[.int .u64 x, .slice (some ⟨B, 0, none⟩) n n] w fun e w' => e = .returned (.slice (some ⟨w.heap.size, 0, none⟩) n n) ∧ CRow w' w.heap.size n (winF F x n n) ∧ Below w.heap.size w w' := by
  have hmk := run_make_row' (P := Try.prog) 23 24 (.slice none 0 0) 24 Try.underlying23 Try.info24 rfl .i64 .i64 n (by omega) (by omega)
  have hne : ((n : Int) == 0) = false := by simp; omega
  have hm0 : (0 : Int) ≤ (x : Int) % (n : Int) := Int.emod_nonneg _ (by omega)
  have hm1 : (x : Int) % (n : Int) < (n : Int) := Int.emod_lt_of_pos _ (by omega)
  go_enter Try.func16, Try.ntmps16
  go_wp2
  clear hmk
  go_loopw [8] (fun i wr => ∃ k : Nat, k ≤ n ∧ i = .int .i64 k ∧ CRow wr w.heap.size n (winF F x n k) ∧ Below w.heap.size w wr) (fun i _ => n - (intOf i).toNat)
  case atStart => exact ⟨0, Nat.zero_le _, rfl, ⟨(CRow.made w n).row.congr (fun j _ => by simp [winF]), fun j hj => by simp [winF]; exact ownV_nil _⟩, (Below.refl _ _).alloc (Nat.le_refl _) _⟩
  case round =>
    obtain ⟨k, hk, rfl, hrow, hbel⟩ := hrel
    by_cases hlt : k < n
    · have hi : (x + k) % n < n := Nat.mod_lt _ hn0
      obtain ⟨ao, l, hc, hFe, hown⟩ := (hF.below hbel).cell hi
      have HR : Hid (CRow (wr.setCell ⟨w.heap.size, k, none⟩ (.slice ao l l)) w.heap.size n (winF F x n (k + 1)) ∧ Below w.heap.size w (wr.setCell ⟨w.heap.size, k, none⟩ (.slice ao l l))) :=
        ⟨winF_step hrow ⟨ao, l, rfl, hown⟩ hFe, hbel.setCell (Nat.le_refl _) _⟩
      have hi0 : (0 : Int) ≤ ((x : Int) + (k : Int)) % (n : Int) := Int.emod_nonneg _ (by omega)
      have hi1 : ((x : Int) + (k : Int)) % (n : Int) < (n : Int) := Int.emod_lt_of_pos _ (by omega)
      have hst1 := hrow.row.cell hlt
      have hst2 := hrow.row.frozen k
      clear hF hFe hown hrow hbel
      go_wp2
      go_roundw
      case rel => exact ⟨k + 1, by omega, by go_num, HR.out.1, HR.out.2⟩
      case measure => simp [intOf]; omega
    · go_wp2
      go_ret
      obtain rfl : k = n := by omega
      exact ⟨rfl, hrow, hbel⟩

/-! ### The buffer -/

/-- THE BUFFER LIES IN BLOCK Bb. -/
def BRow (w : World) (Bb : Nat) (nx : Int) (ao : Option Addr) (n c : Nat) (p m : Int) : Prop :=
  w.heap[Bb]? = some (.cells #[.int .u64 nx, .slice ao n c, .int .i64 p, .int .i64 m] 40 (0, 0))

section
variable {w w' : World} {Bb : Nat} {nx : Int} {ao : Option Addr} {n c : Nat} {p m : Int}
theorem BRow.row (h : BRow w Bb nx ao n c p m) : w.rowIs Bb 40 4 (fun i => (#[.int .u64 nx, .slice ao n c, .int .i64 p, .int .i64 m] : Array Value).getD i undef) :=
  ⟨_, h, rfl, fun i hi => by
    match i, hi with
    | 0, _ => rfl
    | 1, _ => rfl
    | 2, _ => rfl
    | 3, _ => rfl⟩
theorem BRow.c0 (h : BRow w Bb nx ao n c p m) : w.cell? ⟨Bb, 0, none⟩ = some (.int .u64 nx) := h.row.cell (i := 0) (by decide)
theorem BRow.c1 (h : BRow w Bb nx ao n c p m) : w.cell? ⟨Bb, 1, none⟩ = some (.slice ao n c) := h.row.cell (i := 1) (by decide)
theorem BRow.c2 (h : BRow w Bb nx ao n c p m) : w.cell? ⟨Bb, 2, none⟩ = some (.int .i64 p) := h.row.cell (i := 2) (by decide)
theorem BRow.c3 (h : BRow w Bb nx ao n c p m) : w.cell? ⟨Bb, 3, none⟩ = some (.int .i64 m) := h.row.cell (i := 3) (by decide)
theorem BRow.frozen (h : BRow w Bb nx ao n c p m) (i : Nat) : w.frozen? ⟨Bb, i, none⟩ = false := h.row.frozen i
theorem BRow.of_block (h : BRow w Bb nx ao n c p m) (e : w'.heap[Bb]? = w.heap[Bb]?) : BRow w' Bb nx ao n c p m := e.trans h
theorem BRow.set0 (h : BRow w Bb nx ao n c p m) (y : Int) : BRow (w.setCell ⟨Bb, 0, none⟩ (.int .u64 y)) Bb y ao n c p m := by
  unfold BRow at *
  simp [World.setCell, Array.getElem?_modify, h]
theorem BRow.set2 (h : BRow w Bb nx ao n c p m) (y : Int) : BRow (w.setCell ⟨Bb, 2, none⟩ (.int .i64 y)) Bb nx ao n c y m := by
  unfold BRow at *
  simp [World.setCell, Array.getElem?_modify, h]
theorem BRow.set3 (h : BRow w Bb nx ao n c p m) (y : Int) : BRow (w.setCell ⟨Bb, 3, none⟩ (.int .i64 y)) Bb nx ao n c p y := by
  unfold BRow at *
  simp [World.setCell, Array.getElem?_modify, h]
theorem BRow.lt (h : BRow w Bb nx ao n c p m) : Bb < w.heap.size := h.row.lt
theorem BRow.new (w : World) (nx : Int) (ao : Option Addr) (n c : Nat) (p m : Int) : BRow (w.alloc (.cells #[.int .u64 nx, .slice ao n c, .int .i64 p, .int .i64 m] 40)) w.heap.size nx ao n c p m := by
  unfold BRow
  show (w.heap.push _)[w.heap.size]? = _
  simp
end

set_option maxHeartbeats 400000 in
theorem newBuffer (nx : Int) (ao : Option Addr) (n c : Nat) (p m : Int) (w : World) :
    Calls Try.prog 11 #[.int .u64 nx, .slice ao n c, .int .i64 p, .int .i64 m] w fun e w' => e = .returned (.pointer (some ⟨w.heap.size, 0, none⟩)) ∧ w' = w.alloc (.cells #[.int .u64 nx, .slice ao n c, .int .i64 p, .int .i64 m] 40) := by
  go_enter Try.func11, Try.ntmps11
  go_wp2
  go_ret
  exact ⟨rfl, rfl⟩

set_option maxHeartbeats 400000 in
theorem bufState (Bb : Nat) (nx : Int) (ao : Option Addr) (n c : Nat) (p m : Int) (w : World) (h : BRow w Bb nx ao n c p m) :
    Calls Try.prog 13 #[.pointer (some ⟨Bb, 0, none⟩)] w fun e w' => e = .returned (.tuple #[.int .u64 nx, .slice ao n c, .int .i64 p, .int .i64 m]) ∧ ∃ q, w' = w.drewN q := by
  have h0 := h.c0
  have h1 := h.c1
  have h2 := h.c2
  have h3 := h.c3
  clear h
  go_enter Try.func13, Try.ntmps13
  go_wp2
  go_quiet (fail)
  go_wp2
  exact bodyPost_ret (v := .tuple #[.int .u64 nx, .slice ao n c, .int .i64 p, .int .i64 m]) (by simp [results, Try.results13, go_sem]) rfl ⟨rfl, _, rfl⟩

/-- What inWindow answers. -/
def inW (x ix n : Nat) : Bool := decide (x ≤ ix ∧ ix < x + n)
theorem inW_yes {x ix n : Nat} (h : x ≤ ix) : decide ((ix : Int) - (x : Int) < (n : Int)) = inW x ix n := by
  unfold inW
  rw [decide_eq_decide]
  omega
theorem inW_no {x ix n : Nat} (h : ¬ x ≤ ix) : inW x ix n = false := by
  unfold inW
  exact decide_eq_false (by omega)
theorem ret_bool {a b : Bool} (h : a = b) : Ending.returned (.bool a) = .returned (.bool b) := by rw [h]

set_option maxHeartbeats 400000 in
theorem inWindow (Bb x ix : Nat) (ao : Option Addr) (n c : Nat) (p m : Int) (w : World) (hx : x ≤ 18446744073709551615) (hix : ix ≤ 18446744073709551615) (hn : n ≤ 65536) (h : BRow w Bb x ao n c p m) :
    Calls Try.prog 20 #[.pointer (some ⟨Bb, 0, none⟩), .int .u64 ix] w fun e w' => e = .returned (.bool (inW x ix n)) ∧ ∃ q, w' = w.drewN q := by
  have h0 := h.c0
  have h1 := h.c1
  clear h
  by_cases hle : x ≤ ix
  · have hd : decide ((x : Int) ≤ (ix : Int)) = true := decide_eq_true (by omega)
    go_enter Try.func20, Try.ntmps20
    go_wp2
    go_quiet (fail)
    go_wp2
    go_ret
    exact ⟨ret_bool (inW_yes hle), _, rfl⟩
  · have hd : decide ((x : Int) ≤ (ix : Int)) = false := decide_eq_false (by omega)
    go_enter Try.func20, Try.ntmps20
    go_wp2
    go_quiet (fail)
    go_wp2
    go_ret
    exact ⟨ret_bool (inW_no hle).symm, _, rfl⟩
end Go.Proofs.Qxb6605435a
