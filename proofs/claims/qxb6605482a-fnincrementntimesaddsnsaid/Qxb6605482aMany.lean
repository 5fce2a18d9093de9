/-
  SEAT b6605482a. THE WALK OF FnIncrementNTimesAddsN.
-/
import Derived.Test.Qxb6605482aOne
namespace Go.Proofs.Qxb6605482a
open Go.RowKit

/-- k increments have been made. -/
def AtN (w0 w : World) (b : Nat → Int) (k : Nat) : Prop := ∃ c, Adds b c k ∧ (∀ i, 0 ≤ c i ∧ c i ≤ 255) ∧ At w0 w b c
theorem atN_step {w0 w w' : World} {b c : Nat → Int} {k : Nat} (hA : Adds b c k) (hc : ∀ i, 0 ≤ c i ∧ c i ≤ 255) (hAt : At w0 w b c) (h : Incd (w0.heap.size + 1) c w w') : AtN w0 w' b (k + 1) := by
  obtain ⟨d, hI, hrow, honly⟩ := h
  exact ⟨d, by have := adds_step hA (inc_adds hc hI); simpa using this, hI.byte, hAt.inc honly hrow⟩

set_option maxHeartbeats 1000000 in
set_option maxRecDepth 100000 in
theorem many_nat (b : Nat → Int) (m : Nat) (w : World) (hb : ∀ i, 0 ≤ b i ∧ b i ≤ 255) (hm : m ≤ 65535) :
    Calls Try.prog 5 #[.agg (arr b), .int .u16 m] w fun e w' => e = .returned (.bool true) ∧ Below w.heap.size w w' := by
  have HB : Hid (∀ i, 0 ≤ b i ∧ b i ≤ 255) := hb
  clear hb
  go_enter Try.func5, Try.ntmps5
  go_wp2_with (first | (refine wpList_load_row rfl 22 _ rfl w.heap.size rfl 22 (arr b) (0, 0) _ (heap_alloc_last w _) Try.underlying22 rfl Try.size22 ?_) | (refine wpList_store_row rfl 23 _ _ rfl (w.heap.size + 1) (arr b) rfl rfl 23 _ (second_new w _ 23 _) Try.size23 rfl (arr_one b) ?_; rw [second_set]))
  have hAt0 : AtN w ((w.alloc (.cells (arr b) 22)).alloc (.cells (arr b) 23)) b 0 := ⟨b, adds_zero HB.out, HB.out, At.start w b⟩
  go_loopw [6] (fun i wr => ∃ k : Nat, k ≤ m ∧ i = .int .i64 k ∧ AtN w wr b k) (fun i _ => m - (intOf i).toNat)
  case atStart => exact ⟨0, Nat.zero_le _, rfl, hAt0⟩
  case round =>
    obtain ⟨k, hk, rfl, c, hA, hc, hAt⟩ := hrel
    clear hAt0
    by_cases hlt : k < m
    · have hinc := zzIncrement6 (w.heap.size + 1) c wr hc hAt.ulid
      have HX : Hid (Adds b c k ∧ (∀ i, 0 ≤ c i ∧ c i ≤ 255) ∧ At w wr b c) := ⟨hA, hc, hAt⟩
      clear hA hc hAt
      go_wp2_with fail
      refine hinc.mono ?_
      clear hinc
      rintro e w1 ⟨rfl, hI⟩
      have HN : Hid (AtN w w1 b (k + 1)) := atN_step HX.out.1 HX.out.2.1 HX.out.2.2 hI
      clear hI HX
      go_wp2_with fail
      go_roundw
      case rel => exact ⟨k + 1, by omega, by go_num, HN.out⟩
      case measure => simp [intOf]; omega
    · obtain rfl : m = k := by omega
      obtain ⟨hlo, hhi⟩ := hA
      have HI : Hid (∀ i, 0 ≤ c i ∧ c i ≤ 255) := hc
      clear hc
      go_wp2_with (refine wpList_load_row rfl 22 _ rfl w.heap.size rfl 22 (arr b) (0, 0) _ hAt.parB Try.underlying22 rfl Try.size22 ?_)
      refine (load7 b wr HB.out).mono ?_
      rintro e w2 ⟨rfl, hw2⟩
      have HAt : Hid (At w w2 b c) := by rw [hw2]; exact hAt.alloc _
      obtain ⟨l0, l1⟩ := word b HB.out 8
      obtain ⟨h0, h1⟩ := word b HB.out 0
      clear hw2 hAt
      generalize H b 8 8 = lo at *
      generalize H b 0 8 = hi at *
      by_cases hz : lo + m ≤ 18446744073709551615
      · have hq : decide (lo + (m : Int) < lo) = false := decide_eq_false (by omega)
        have hD : arr (D hi (lo + m)) = arr c := by rw [← arr_D HI.out, show H c 0 8 = hi by omega, show H c 8 8 = (lo + m) by omega]
        have H8 := fun W => store8 hi (lo + m) W (by omega) (by omega) (by omega) (by omega)
        rw [hD] at H8
        clear hD hlo hhi
        go_wp2_with fail
        have hcell : ∀ j, j < 16 → w2.cell? ⟨w.heap.size + 1, j, none⟩ = some (.int .u8 (c j)) := fun j hj => HAt.out.ulid.cell hj
        have hcell2 : ∀ o o' j, j < 16 → ((w2.alloc o).alloc o').cell? ⟨w.heap.size + 1, j, none⟩ = some (.int .u8 (c j)) := fun o o' j hj => ((HAt.out.ulid.alloc o).alloc o').cell hj
        have heq := equalIn_arr c
        unfold arr at H8 heq
        go_region_with (go_at_call 8; refine (H8 _).mono ?_; rintro e w3 ⟨rfl, rfl⟩)
        all_goals
          go_wp2_with fail
          go_ret
          exact ⟨rfl, ((HAt.out.alloc _).alloc _).below.drew⟩
      · obtain ⟨L2, hL2⟩ : ∃ L2 : Int, L2 = lo + m - 18446744073709551616 := ⟨_, rfl⟩
        have hw : IntKind.u64.wrap (lo + (m : Int)) = L2 := by rw [IntKind.wrap_u64]; omega
        have hL0 : 0 ≤ L2 := by omega
        have hL1 : L2 ≤ 18446744073709551615 := by omega
        have hq : decide (L2 < lo) = true := decide_eq_true (by omega)
        have HL2 : Hid (L2 = lo + m - 18446744073709551616) := hL2
        clear hL2 hz
        by_cases hm : hi = 18446744073709551615
        · subst hm
          have hD : arr (D 0 L2) = arr c := by rw [← arr_D HI.out, show H c 0 8 = 0 by (have := HL2.out; omega), show H c 8 8 = L2 by (have := HL2.out; omega)]
          have H8 := fun W => store8 0 L2 W (by omega) (by omega) (by omega) (by omega)
          rw [hD] at H8
          clear hD hlo hhi
          go_wp2_with fail
          have hcell : ∀ j, j < 16 → w2.cell? ⟨w.heap.size + 1, j, none⟩ = some (.int .u8 (c j)) := fun j hj => HAt.out.ulid.cell hj
          have hcell2 : ∀ o o' j, j < 16 → ((w2.alloc o).alloc o').cell? ⟨w.heap.size + 1, j, none⟩ = some (.int .u8 (c j)) := fun o o' j hj => ((HAt.out.ulid.alloc o).alloc o').cell hj
          have heq := equalIn_arr c
          unfold arr at H8 heq
          go_region_with (go_at_call 8; refine (H8 _).mono ?_; rintro e w3 ⟨rfl, rfl⟩)
          all_goals
            go_wp2_with fail
            go_ret
            exact ⟨rfl, ((HAt.out.alloc _).alloc _).below.drew⟩
        · have hm' : hi ≤ 18446744073709551614 := by omega
          clear hm
          have hD : arr (D (hi + 1) L2) = arr c := by rw [← arr_D HI.out, show H c 0 8 = (hi + 1) by (have := HL2.out; omega), show H c 8 8 = L2 by (have := HL2.out; omega)]
          have H8 := fun W => store8 (hi + 1) L2 W (by omega) (by omega) (by omega) (by omega)
          rw [hD] at H8
          clear hD hlo hhi
          go_wp2_with fail
          have hcell : ∀ j, j < 16 → w2.cell? ⟨w.heap.size + 1, j, none⟩ = some (.int .u8 (c j)) := fun j hj => HAt.out.ulid.cell hj
          have hcell2 : ∀ o o' j, j < 16 → ((w2.alloc o).alloc o').cell? ⟨w.heap.size + 1, j, none⟩ = some (.int .u8 (c j)) := fun o o' j hj => ((HAt.out.ulid.alloc o).alloc o').cell hj
          have heq := equalIn_arr c
          unfold arr at H8 heq
          go_region_with (go_at_call 8; refine (H8 _).mono ?_; rintro e w3 ⟨rfl, rfl⟩)
          all_goals
            go_wp2_with fail
            go_ret
            exact ⟨rfl, ((HAt.out.alloc _).alloc _).below.drew⟩

theorem many_walk (b : Nat → Int) (n : Int) (w : World) (hb : ∀ i, 0 ≤ b i ∧ b i ≤ 255) (hn : (Lit.int .u16 n).wf = true) :
    Calls Try.prog 5 #[.agg (arr b), .int .u16 n] w fun e w' => e = .returned (.bool true) ∧ Below w.heap.size w w' := by
  simp [Lit.wf, IntKind.min, IntKind.max, IntKind.signed, IntKind.bits] at hn
  obtain ⟨m, rfl⟩ := Int.eq_ofNat_of_zero_le (show 0 ≤ n by omega)
  exact many_nat b m w hb (by omega)
end Go.Proofs.Qxb6605482a
