/-
  SEAT b6605482a. THE WALK OF FnIncrementIsUndoneByDecrementAndRaisesOrder.
-/
import Derived.Test.Qxb6605482aDec
import Derived.Test.Qxb6605482aLess
namespace Go.Proofs.Qxb6605482a
open Go.RowKit

/-- The argument's block, the ULID's, and the result's (block R). -/
structure Bk (w0 w : World) (R : Nat) (b c : Nat → Int) : Prop where
  at2 : At w0 w b c
  res : w.rowIs R 22 16 (fun i => .int .u8 (c i))
theorem Bk.resB {w0 w : World} {R : Nat} {b c : Nat → Int} (h : Bk w0 w R b c) : w.heap[R]? = some (.cells (arr c) 22 (0, 0)) := row_arr h.res
theorem Bk.alloc {w0 w : World} {R : Nat} {b c : Nat → Int} (h : Bk w0 w R b c) (o : Obj) : Bk w0 (w.alloc o) R b c := ⟨h.at2.alloc o, h.res.alloc o⟩
theorem Bk.new {w0 w : World} {b c : Nat → Int} (h : At w0 w b c) : Bk w0 (w.alloc (.cells (arr c) 22)) w.heap.size b c := ⟨h.alloc _, arr_row w c 22⟩
theorem row_lt {w : World} {B n : Nat} {t : TypeId} {V : Nat → Value} (h : w.rowIs B t n V) : B < w.heap.size := by
  obtain ⟨a, hb, _⟩ := h
  exact (Array.getElem?_eq_some_iff.1 hb).1
theorem Bk.below {w0 w w' : World} {R : Nat} {b c : Nat → Int} (h : Bk w0 w R b c) (hb : Below w.heap.size w w') : Bk w0 w' R b c := by
  have h1 := row_lt h.at2.par
  have h2 := row_lt h.at2.ulid
  have h3 := row_lt h.res
  exact ⟨⟨h.at2.par.of_block (hb.block _ h1), h.at2.ulid.of_block (hb.block _ h2), h.at2.below.trans ⟨hb.os, hb.tape, hb.output, hb.size, fun k hk => hb.block k (by omega)⟩⟩, h.res.of_block (hb.block _ h3)⟩
theorem Bk.drew {w0 w : World} {R : Nat} {b c : Nat → Int} (h : Bk w0 w R b c) : Bk w0 w.drew R b c := h.below (Below.refl _ _).drew

set_option maxHeartbeats 1000000 in
set_option maxRecDepth 100000 in
theorem back_walk (b : Nat → Int) (w : World) (hb : ∀ i, 0 ≤ b i ∧ b i ≤ 255) : Calls Try.prog 4 #[.agg (arr b)] w fun e w' => e = .returned (.bool true) ∧ Below w.heap.size w w' := by
  have HB : Hid (∀ i, 0 ≤ b i ∧ b i ≤ 255) := hb
  clear hb
  go_enter Try.func4, Try.ntmps4
  go_wp2_with (first | (refine wpList_load_row rfl 22 _ rfl w.heap.size rfl 22 (arr b) (0, 0) _ (heap_alloc_last w _) Try.underlying22 rfl Try.size22 ?_) | (refine wpList_store_row rfl 23 _ _ rfl (w.heap.size + 1) (arr b) rfl rfl 23 _ (second_new w _ 23 _) Try.size23 rfl (arr_one b) ?_; rw [second_set]))
  have hAt0 := At.start w b
  refine (zzIncrement6 (w.heap.size + 1) b _ HB.out hAt0.ulid).mono ?_
  rintro e w1 ⟨rfl, c, hI, hrow, honly⟩
  have hAt1 := hAt0.inc honly hrow
  have H9 := fun W => dec9 c b W hI.byte HB.out (inc_adds HB.out hI)
  have HI : Hid (Inc b c) := hI
  clear hAt0 hrow honly hI
  go_wp2_with (first | (refine wpList_load_row rfl 23 _ rfl (w.heap.size + 1) rfl 23 (arr c) (0, 0) _ hAt1.ulidB Try.underlying23 rfl Try.size23 ?_) | (refine wpList_store_row rfl 22 _ _ rfl w1.heap.size (arr c) rfl rfl 22 _ (heap_alloc_last w1 _) Try.size22 rfl (arr_one c) ?_; rw [World.setRow_alloc_new]))
  have HK : Hid (Bk w (w1.alloc (.cells (arr c) 22)) w1.heap.size b c) := Bk.new hAt1
  clear hAt1
  generalize w1.alloc (.cells (arr c) 22) = w2 at *
  generalize w1.heap.size = R at *
  have hc4 : ∀ j, j < 16 → w2.cell? ⟨R, j, none⟩ = some (.int .u8 (c j)) := fun j hj => HK.out.res.cell hj
  have hc1 : ∀ j, j < 16 → w2.cell? ⟨w.heap.size, j, none⟩ = some (.int .u8 (b j)) := fun j hj => HK.out.at2.par.cell hj
  have hc1' : ∀ j, j < 16 → (DecW c b zeros w2.drew).cell? ⟨w.heap.size, j, none⟩ = some (.int .u8 (b j)) := fun j hj => (HK.out.drew.below (dec_below w2.drew c b zeros)).at2.par.cell hj
  have heq := equalIn_arr b
  unfold arr at H9 heq
  go_region_with (go_at_call 9; refine (H9 _).mono ?_; rintro e w3 ⟨rfl, rfl⟩)
  all_goals
    have HK' : Hid (Bk w (DecW c b zeros w2.drew) R b c) := HK.out.drew.below (dec_below w2.drew c b zeros)
    clear HK hc4 hc1 hc1' heq H9
    generalize DecW c b zeros w2.drew = w3 at *
    have HK1 : Hid (Bk w (w3.alloc (.cells (arr b) 22)) R b c) := HK'.out.alloc _
    obtain ⟨m, hm, h255, hmid, hsame⟩ := HI.out.ex
    clear HI
    rcases Nat.eq_zero_or_pos m with rfl | hpos
    · have H10 := fun W => allFF10_true b W (fun j hj => (h255 j (by omega) hj).1)
      have hcz : arr c = arr (fun _ => 0) := arr_congr (fun j hj => (h255 j (by omega) hj).2)
      have heq := equalIn_arr (fun _ => 0)
      clear h255 hmid hsame hm
      go_wp2_with (refine wpList_load_row rfl 22 _ rfl w.heap.size rfl 22 (arr b) (0, 0) _ HK'.out.at2.parB Try.underlying22 rfl Try.size22 ?_)
      refine (H10 _).mono ?_
      rintro e w4 ⟨rfl, rfl⟩
      clear H10
      unfold arr at heq
      go_wp2_with (refine wpList_load_row rfl 22 _ rfl R rfl 22 (arr c) (0, 0) _ HK1.out.resB Try.underlying22 rfl Try.size22 ?_; rw [hcz]; unfold arr)
      go_ret
      exact ⟨rfl, HK1.out.at2.below⟩
    · have H10 := fun W => allFF10_false b W (m - 1) (by omega) (hmid hpos).1
      have H11 := fun W => less11 b c W (m - 1) (by omega) (fun j hj => hsame j (by omega)) (by have := (hmid hpos).2; omega)
      clear h255 hmid hsame hm hpos
      go_wp2_with (refine wpList_load_row rfl 22 _ rfl w.heap.size rfl 22 (arr b) (0, 0) _ HK'.out.at2.parB Try.underlying22 rfl Try.size22 ?_)
      refine (H10 _).mono ?_
      rintro e w4 ⟨rfl, rfl⟩
      clear H10
      go_wp2_with (first | (refine wpList_load_row rfl 22 _ rfl w.heap.size rfl 22 (arr b) (0, 0) _ HK1.out.at2.parB Try.underlying22 rfl Try.size22 ?_) | (refine wpList_load_row rfl 22 _ rfl R rfl 22 (arr c) (0, 0) _ HK1.out.resB Try.underlying22 rfl Try.size22 ?_))
      refine (H11 _).mono ?_
      rintro e w5 ⟨rfl, hbel⟩
      have HE : Hid (Below w.heap.size w w5) := (HK1.out.below hbel).at2.below
      clear hbel H11
      go_wp2_with fail
      go_ret
      exact ⟨rfl, HE.out⟩
end Go.Proofs.Qxb6605482a
