/-
  SEAT b6605482a. increment.
-/
import Derived.Test.Qxb6605482aStore
import Derived.RegionTactic
namespace Go.Proofs.Qxb6605482a
open Go.RowKit

/-- NOTHING BUT BLOCK B HAS TURNED. -/
structure Only (B : Nat) (w w' : World) : Prop where
  os : w'.os = w.os
  tape : w'.tape = w.tape
  output : w'.output = w.output
  size : w'.heap.size = w.heap.size
  block : ∀ k, k ≠ B → w'.heap[k]? = w.heap[k]?
theorem Only.refl (B : Nat) (w : World) : Only B w w := ⟨rfl, rfl, rfl, rfl, fun _ _ => rfl⟩
theorem Only.set {B : Nat} {w w' : World} (h : Only B w w') (i : Nat) (v : Value) : Only B w (w'.setCell ⟨B, i, none⟩ v) :=
  ⟨h.os, h.tape, h.output, by simpa [World.setCell] using h.size, fun k hk => (Below.heap_setCell _ _ _ _ hk).trans (h.block k hk)⟩
theorem Only.drew {B : Nat} {w w' : World} (h : Only B w w') : Only B w w'.drew := ⟨h.os, h.tape, h.output, h.size, h.block⟩
theorem Only.trans {B : Nat} {a b c : World} (h : Only B a b) (k : Only B b c) : Only B a c :=
  ⟨k.os.trans h.os, k.tape.trans h.tape, k.output.trans h.output, k.size.trans h.size, fun i hi => (k.block i hi).trans (h.block i hi)⟩
theorem Only.below {B S : Nat} {w0 w w' : World} (h : Only B w w') (h0 : Below S w0 w) (hB : S ≤ B) : Below S w0 w' :=
  h0.trans ⟨h.os, h.tape, h.output, by rw [h.size]; exact Nat.le_refl _, fun k hk => h.block k (by omega)⟩

/-- The row's block, written out. -/
theorem row_arr {w : World} {B : Nat} {t : TypeId} {c : Nat → Int} (h : w.rowIs B t 16 (fun i => .int .u8 (c i))) : w.heap[B]? = some (.cells (arr c) t (0, 0)) := by
  obtain ⟨a, hb, hs, hc⟩ := h
  rw [hb]
  congr 2
  apply Array.ext_getElem?
  intro i
  by_cases hi : i < 16
  · rw [hc i hi, arr_at c hi]
  · rw [Array.getElem?_eq_none (by omega), Array.getElem?_eq_none (by show 16 ≤ i; omega)]
theorem arr_rowIs {w : World} {B : Nat} {t : TypeId} {c : Nat → Int} (h : w.heap[B]? = some (.cells (arr c) t (0, 0))) : w.rowIs B t 16 (fun i => .int .u8 (c i)) := ⟨arr c, h, rfl, fun _ hi => arr_at c hi⟩

/-- c IS b RAISED BY ONE: from place m on b holds 255 and c 0; at m - 1 the one is added; ahead of it all is the same. (m = 0: all was 255.) -/
structure Inc (b c : Nat → Int) : Prop where
  ex : ∃ m, m ≤ 16 ∧ (∀ j, m ≤ j → j < 16 → b j = 255 ∧ c j = 0) ∧ (0 < m → b (m - 1) ≠ 255 ∧ c (m - 1) = b (m - 1) + 1) ∧ ∀ j, j + 1 < m → c j = b j
  byte : ∀ i, 0 ≤ c i ∧ c i ≤ 255

/-- The bytes behind k rounds, all of them carried. -/
def zer (b : Nat → Int) (k : Nat) : Nat → Int := fun j => if 16 - k ≤ j then 0 else b j
theorem zer_step {b : Nat → Int} {w : World} {B k : Nat} (hk : k < 16) (h : w.rowIs B 23 16 (fun i => .int .u8 (zer b k i))) : (w.setCell ⟨B, 15 - k, none⟩ (.int .u8 0)).rowIs B 23 16 (fun i => .int .u8 (zer b (k + 1) i)) := by
  refine (h.set (15 - k) _).congr (fun j hj => ?_)
  unfold zer
  by_cases e : j = 15 - k
  · rw [if_pos e, if_pos (by omega)]
  · rw [if_neg e]
    by_cases h2 : 16 - k ≤ j
    · rw [if_pos h2, if_pos (by omega)]
    · rw [if_neg h2, if_neg (by omega)]
/-- .. and the last. -/
def fin (b : Nat → Int) (k : Nat) : Nat → Int := fun j => if j = 15 - k then b (15 - k) + 1 else zer b k j
theorem fin_step {b : Nat → Int} {w : World} {B k : Nat} (h : w.rowIs B 23 16 (fun i => .int .u8 (zer b k i))) : (w.setCell ⟨B, 15 - k, none⟩ (.int .u8 (b (15 - k) + 1))).rowIs B 23 16 (fun i => .int .u8 (fin b k i)) := by
  refine (h.set (15 - k) _).congr (fun j hj => ?_)
  unfold fin
  by_cases e : j = 15 - k
  · rw [if_pos e, if_pos e]
  · rw [if_neg e, if_neg e]
theorem inc_fin {b : Nat → Int} {k : Nat} (hb : ∀ i, 0 ≤ b i ∧ b i ≤ 255) (hk : k < 16) (h255 : ∀ j, 16 - k ≤ j → j < 16 → b j = 255) (hne : b (15 - k) ≠ 255) : Inc b (fin b k) := by
  refine ⟨⟨16 - k, by omega, fun j h1 h2 => ⟨h255 j h1 h2, ?_⟩, fun _ => ?_, fun j hj => ?_⟩, fun i => ?_⟩
  · unfold fin zer
    rw [if_neg (by omega), if_pos h1]
  · rw [show 16 - k - 1 = 15 - k by omega]
    exact ⟨hne, by unfold fin; rw [if_pos rfl]⟩
  · unfold fin zer
    rw [if_neg (by omega), if_neg (by omega)]
  · have h1 := hb i
    have h2 := hb (15 - k)
    unfold fin zer
    split
    · omega
    · split <;> omega
theorem inc_all {b : Nat → Int} (hb : ∀ i, 0 ≤ b i ∧ b i ≤ 255) (h255 : ∀ j, 16 - 16 ≤ j → j < 16 → b j = 255) : Inc b (zer b 16) := by
  refine ⟨⟨0, by omega, fun j h1 h2 => ⟨h255 j (by omega) h2, ?_⟩, fun h => absurd h (by omega), fun j hj => absurd hj (by omega)⟩, fun i => ?_⟩
  · unfold zer
    rw [if_pos (by omega)]
  · have h1 := hb i
    unfold zer
    split <;> omega

/-- What increment leaves. -/
def Incd (B : Nat) (b : Nat → Int) (w w' : World) : Prop := ∃ c, Inc b c ∧ w'.rowIs B 23 16 (fun i => .int .u8 (c i)) ∧ Only B w w'

set_option maxHeartbeats 400000 in
theorem increment12 (B : Nat) (b : Nat → Int) (w : World) (hb : ∀ i, 0 ≤ b i ∧ b i ≤ 255) (hv : w.rowIs B 23 16 (fun i => .int .u8 (b i))) :
    Calls Try.prog 12 #[.pointer (some ⟨B, 0, none⟩)] w fun e w' => e = .returned (.tuple #[]) ∧ Incd B b w w' := by
  have HB : Hid (∀ i, 0 ≤ b i ∧ b i ≤ 255) := hb
  clear hb
  go_enter Try.func12, Try.ntmps12
  go_wp2_with fail
  go_loopw [2] (fun i wr => ∃ k : Nat, k ≤ 16 ∧ i = .int .i64 (15 - k) ∧ wr.rowIs B 23 16 (fun i => .int .u8 (zer b k i)) ∧ (∀ j, 16 - k ≤ j → j < 16 → b j = 255) ∧ Only B w wr) (fun i _ => (intOf i + 1).toNat)
  case atStart => exact ⟨0, by omega, rfl, hv.congr (fun j hj => by unfold zer; rw [if_neg (by omega)]), fun j h1 h2 => absurd h1 (by omega), Only.refl _ _⟩
  case round =>
    obtain ⟨k, hk, rfl, hrow, h255, honly⟩ := hrel
    clear hv
    by_cases hlt : k < 16
    · have hc := hrow.cell (i := 15 - k) (by omega)
      have hf := hrow.frozen (15 - k)
      have ez : zer b k (15 - k) = b (15 - k) := by unfold zer; rw [if_neg (by omega)]
      rw [ez] at hc
      have hbz := HB.out (15 - k)
      by_cases hz : b (15 - k) = 255
      · have HR : Hid ((wr.setCell ⟨B, 15 - k, none⟩ (.int .u8 0)).rowIs B 23 16 (fun i => .int .u8 (zer b (k + 1) i)) ∧ (∀ j, 16 - (k + 1) ≤ j → j < 16 → b j = 255) ∧ Only B w (wr.setCell ⟨B, 15 - k, none⟩ (.int .u8 0))) :=
          ⟨zer_step hlt hrow, fun j h1 h2 => by
            by_cases e : j = 15 - k
            · rw [e]; exact hz
            · exact h255 j (by omega) h2, honly.set _ _⟩
        rw [hz] at hc
        clear hz hbz ez hrow h255 honly
        go_wp2_with fail
        go_region
        all_goals
          go_wp2_with fail
          go_roundw
          case rel => exact ⟨k + 1, by omega, by go_num, HR.out.1, HR.out.2.1, HR.out.2.2.drew⟩
          case measure => simp [intOf]; omega
      · have HR : Hid (Incd B b w (wr.setCell ⟨B, 15 - k, none⟩ (.int .u8 (b (15 - k) + 1))).drew) := ⟨fin b k, inc_fin HB.out hlt h255 hz, fin_step hrow, (honly.set _ _).drew⟩
        have hlo : b (15 - k) ≤ 254 := by omega
        have hwr : IntKind.u8.wrap (b (15 - k) + 1) = b (15 - k) + 1 := by rw [IntKind.wrap_u8]; omega
        have hne : (b (15 - k) + 1 != 0) = true := by rw [bne_iff_ne]; omega
        clear hz ez hrow h255 honly
        go_wp2_with fail
        go_region
        all_goals
          go_wp2_with fail
          exact bodyPost_ret (v := .tuple #[]) (by simp [results, Try.results12, go_sem]) rfl ⟨rfl, HR.out⟩
    · obtain rfl : k = 16 := by omega
      go_wp2_with fail
      go_end0
      exact ⟨rfl, zer b 16, inc_all HB.out h255, hrow, honly⟩

set_option maxHeartbeats 400000 in
theorem zzIncrement6 (B : Nat) (b : Nat → Int) (w : World) (hb : ∀ i, 0 ≤ b i ∧ b i ≤ 255) (hv : w.rowIs B 23 16 (fun i => .int .u8 (b i))) :
    Calls Try.prog 6 #[.pointer (some ⟨B, 0, none⟩)] w fun e w' => e = .returned (.tuple #[]) ∧ Incd B b w w' := by
  have H := increment12 B b w hb hv
  clear hb hv
  go_enter Try.func6, Try.ntmps6
  go_wp2_with fail
  refine H.mono ?_
  rintro e w' ⟨rfl, hI⟩
  go_wp2_with fail
  go_end0
  exact ⟨rfl, hI⟩
end Go.Proofs.Qxb6605482a
