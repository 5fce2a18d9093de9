/-
  SEAT b6605482a. THE WALK OF FnIncrementAddsOneAsBigEndian128.
-/
import Derived.Test.Qxb6605482aNum
import Derived.Deep.RegionWith
import Derived.Deep.WholeRow
namespace Go.Proofs.Qxb6605482a
open Go.RowKit

theorem Try.size22 : (Try.prog.info? 22).map (·.size) = some 16 := by kernel_rfl
theorem Try.size23 : (Try.prog.info? 23).map (·.size) = some 16 := by kernel_rfl
theorem arr_one (b : Nat → Int) : (arr b).all (·.oneCell') = true := by simp [arr, Value.oneCell']

/-- The ULID is a copy of the argument: two new blocks. -/
theorem two_rows (w : World) (b : Nat → Int) : ((w.alloc (.cells (arr b) 22)).alloc (.cells (arr b) 23)).rowIs (w.heap.size + 1) 23 16 (fun i => .int .u8 (b i)) := by
  have h := arr_row (w.alloc (.cells (arr b) 22)) b 23
  rwa [show (w.alloc (.cells (arr b) 22)).heap.size = w.heap.size + 1 from by simp] at h
theorem two_below (w : World) (o o' : Obj) : Below w.heap.size w ((w.alloc o).alloc o') := ((Below.refl _ _).alloc (Nat.le_refl _) o).alloc (by simp) o'
theorem second_new (w : World) (o : Obj) (t : TypeId) (z : Array Value) : ((w.alloc o).alloc (.cells z t)).heap[w.heap.size + 1]? = some (.cells z t (0, 0)) := by
  have h := heap_alloc_last (w.alloc o) (.cells z t)
  rwa [show (w.alloc o).heap.size = w.heap.size + 1 from by simp] at h
theorem second_set (w : World) (o : Obj) (t : TypeId) (z c : Array Value) : ((w.alloc o).alloc (.cells z t)).setRow (w.heap.size + 1) c = (w.alloc o).alloc (.cells c t) := by
  have h := World.setRow_alloc_new (w.alloc o) z c t
  rwa [show (w.alloc o).heap.size = w.heap.size + 1 from by simp] at h

/-- WHAT STANDS BEFORE THE LAST COMPARISON: the argument's block and the ULID's (in blocks N and N + 1), nothing old turned. -/
structure At (w0 w : World) (b c : Nat → Int) : Prop where
  par : w.rowIs w0.heap.size 22 16 (fun i => .int .u8 (b i))
  ulid : w.rowIs (w0.heap.size + 1) 23 16 (fun i => .int .u8 (c i))
  below : Below w0.heap.size w0 w
theorem At.start (w : World) (b : Nat → Int) : At w ((w.alloc (.cells (arr b) 22)).alloc (.cells (arr b) 23)) b b := ⟨(arr_row w b 22).alloc _, two_rows w b, two_below w _ _⟩
theorem At.inc {w0 w w' : World} {b c d : Nat → Int} (h : At w0 w b c) (ho : Only (w0.heap.size + 1) w w') (hr : w'.rowIs (w0.heap.size + 1) 23 16 (fun i => .int .u8 (d i))) : At w0 w' b d :=
  ⟨h.par.of_block (ho.block _ (by omega)), hr, ho.below h.below (by omega)⟩
theorem At.alloc {w0 w : World} {b c : Nat → Int} (h : At w0 w b c) (o : Obj) : At w0 (w.alloc o) b c := ⟨h.par.alloc o, h.ulid.alloc o, h.below.alloc h.below.size o⟩
theorem At.parB {w0 w : World} {b c : Nat → Int} (h : At w0 w b c) : w.heap[w0.heap.size]? = some (.cells (arr b) 22 (0, 0)) := row_arr h.par
theorem At.ulidB {w0 w : World} {b c : Nat → Int} (h : At w0 w b c) : w.heap[w0.heap.size + 1]? = some (.cells (arr c) 23 (0, 0)) := row_arr h.ulid
theorem At.drewN {w0 w : World} {b c : Nat → Int} (h : At w0 w b c) (q : Nat) : At w0 (w.drewN q) b c := ⟨h.par, h.ulid, ⟨h.below.os, h.below.tape, h.below.output, h.below.size, h.below.block⟩⟩

set_option maxHeartbeats 1000000 in
set_option maxRecDepth 100000 in
theorem one_walk (b : Nat → Int) (w : World) (hb : ∀ i, 0 ≤ b i ∧ b i ≤ 255) : Calls Try.prog 3 #[.agg (arr b)] w fun e w' => e = .returned (.bool true) ∧ Below w.heap.size w w' := by
  have HB : Hid (∀ i, 0 ≤ b i ∧ b i ≤ 255) := hb
  clear hb
  go_enter Try.func3, Try.ntmps3
  go_wp2_with (first | (refine wpList_load_row rfl 22 _ rfl w.heap.size rfl 22 (arr b) (0, 0) _ (heap_alloc_last w _) Try.underlying22 rfl Try.size22 ?_) | (refine wpList_store_row rfl 23 _ _ rfl (w.heap.size + 1) (arr b) rfl rfl 23 _ (second_new w _ 23 _) Try.size23 rfl (arr_one b) ?_; rw [second_set]))
  have hAt0 := At.start w b
  refine (zzIncrement6 (w.heap.size + 1) b _ HB.out hAt0.ulid).mono ?_
  rintro e w1 ⟨rfl, c, hI, hrow, honly⟩
  have hAt1 := hAt0.inc honly hrow
  obtain ⟨hlo, hhi⟩ := inc_adds HB.out hI
  have HI : Hid (∀ i, 0 ≤ c i ∧ c i ≤ 255) := hI.byte
  clear hAt0 hrow honly hI
  go_wp2_with (refine wpList_load_row rfl 22 _ rfl w.heap.size rfl 22 (arr b) (0, 0) _ hAt1.parB Try.underlying22 rfl Try.size22 ?_)
  refine (load7 b w1 HB.out).mono ?_
  rintro e w2 ⟨rfl, hw2⟩
  have HAt : Hid (At w w2 b c) := by rw [hw2]; exact hAt1.alloc _
  obtain ⟨l0, l1⟩ := word b HB.out 8
  obtain ⟨h0, h1⟩ := word b HB.out 0
  clear hw2 hAt1
  generalize H b 8 8 = lo at *
  generalize H b 0 8 = hi at *
  by_cases hz : lo = 18446744073709551615
  · subst hz
    by_cases hm : hi = 18446744073709551615
    · subst hm
      have hD : arr (D 0 0) = arr c := by rw [← arr_D HI.out, show H c 0 8 = 0 by omega, show H c 8 8 = 0 by omega]
      have H8 := fun W => store8 0 0 W (by omega) (by omega) (by omega) (by omega)
      rw [hD] at H8
      clear hD hlo hhi
      go_wp2_with fail
      have hcell : ∀ j, j < 16 → w2.cell? ⟨w.heap.size + 1, j, none⟩ = some (.int .u8 (c j)) := fun j hj => HAt.out.ulid.cell hj
      have hcell2 : ∀ o o' j, j < 16 → ((w2.alloc o).alloc o').cell? ⟨w.heap.size + 1, j, none⟩ = some (.int .u8 (c j)) := fun o o' j hj => ((HAt.out.ulid.alloc o).alloc o').cell hj
      have heq := equalIn_arr c
      unfold arr at H8 heq
      go_region_with (go_at_call 8; refine (H8 _).mono ?_; rintro e w3 ⟨rfl, rfl⟩)
      all_goals
        go_wp2_with fail
        go_ret
        exact ⟨rfl, ((HAt.out.alloc _).alloc _).below.drew⟩
    · have hm' : hi ≤ 18446744073709551614 := by omega
      clear hm
      have hD : arr (D (hi + 1) 0) = arr c := by rw [← arr_D HI.out, show H c 0 8 = (hi + 1) by omega, show H c 8 8 = 0 by omega]
      have H8 := fun W => store8 (hi + 1) 0 W (by omega) (by omega) (by omega) (by omega)
      rw [hD] at H8
      clear hD hlo hhi
      go_wp2_with fail
      have hcell : ∀ j, j < 16 → w2.cell? ⟨w.heap.size + 1, j, none⟩ = some (.int .u8 (c j)) := fun j hj => HAt.out.ulid.cell hj
      have hcell2 : ∀ o o' j, j < 16 → ((w2.alloc o).alloc o').cell? ⟨w.heap.size + 1, j, none⟩ = some (.int .u8 (c j)) := fun o o' j hj => ((HAt.out.ulid.alloc o).alloc o').cell hj
      have heq := equalIn_arr c
      unfold arr at H8 heq
      go_region_with (go_at_call 8; refine (H8 _).mono ?_; rintro e w3 ⟨rfl, rfl⟩)
      all_goals
        go_wp2_with fail
        go_ret
        exact ⟨rfl, ((HAt.out.alloc _).alloc _).below.drew⟩
  · have hz' : lo ≤ 18446744073709551614 := by omega
    have hq : (lo + 1 == 0) = false := by rw [beq_eq_false_iff_ne]; omega
    clear hz
    have hD : arr (D hi (lo + 1)) = arr c := by rw [← arr_D HI.out, show H c 0 8 = hi by omega, show H c 8 8 = (lo + 1) by omega]
    have H8 := fun W => store8 hi (lo + 1) W (by omega) (by omega) (by omega) (by omega)
    rw [hD] at H8
    clear hD hlo hhi
    go_wp2_with fail
    have hcell : ∀ j, j < 16 → w2.cell? ⟨w.heap.size + 1, j, none⟩ = some (.int .u8 (c j)) := fun j hj => HAt.out.ulid.cell hj
    have hcell2 : ∀ o o' j, j < 16 → ((w2.alloc o).alloc o').cell? ⟨w.heap.size + 1, j, none⟩ = some (.int .u8 (c j)) := fun o o' j hj => ((HAt.out.ulid.alloc o).alloc o').cell hj
    have heq := equalIn_arr c
    unfold arr at H8 heq
    go_region_with (go_at_call 8; refine (H8 _).mono ?_; rintro e w3 ⟨rfl, rfl⟩)
    all_goals
      go_wp2_with fail
      go_ret
      exact ⟨rfl, ((HAt.out.alloc _).alloc _).below.drew⟩
end Go.Proofs.Qxb6605482a
