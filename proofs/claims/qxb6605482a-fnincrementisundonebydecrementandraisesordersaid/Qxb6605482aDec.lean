/-
  SEAT b6605482a. zzDec.
-/
import Derived.Test.Qxb6605482aOne
namespace Go.Proofs.Qxb6605482a
open Go.RowKit

/-- The world that zzDec leaves: five new blocks. -/
def DecW (c b : Nat → Int) (z : Array Value) (w : World) : World :=
  (((((w.alloc (.cells (arr c) 22)).alloc (.cells z 22)).alloc (.cells (arr c) 22)).alloc (.cells (arr b) 22)).alloc (.cells (arr b) 22)).setRow (w.heap.size + 1) (arr b)
def zeros : Array Value := #[.int .u8 0, .int .u8 0, .int .u8 0, .int .u8 0, .int .u8 0, .int .u8 0, .int .u8 0, .int .u8 0, .int .u8 0, .int .u8 0, .int .u8 0, .int .u8 0, .int .u8 0, .int .u8 0, .int .u8 0, .int .u8 0]

theorem dec_block (w : World) (c b : Nat → Int) :
    (((((w.alloc (.cells (arr c) 22)).alloc (.cells zeros 22)).alloc (.cells (arr c) 22)).alloc (.cells (arr b) 22)).alloc (.cells (arr b) 22)).heap[w.heap.size + 1]? = some (.cells zeros 22 (0, 0)) := by
  have h := second_new w (.cells (arr c) 22) 22 zeros
  have up : ∀ (W : World) (o : Obj), w.heap.size + 1 < W.heap.size → (W.alloc o).heap[w.heap.size + 1]? = W.heap[w.heap.size + 1]? := fun W o hW => by
    show (W.heap.push o)[w.heap.size + 1]? = _
    rw [Array.getElem?_push, if_neg (by omega)]
  rw [up _ _ (by simp), up _ _ (by simp), up _ _ (by simp), h]
theorem dec_below (w : World) (c b : Nat → Int) (z : Array Value) : Below w.heap.size w (DecW c b z w) := by
  have hb : Below w.heap.size w (((((w.alloc (.cells (arr c) 22)).alloc (.cells z 22)).alloc (.cells (arr c) 22)).alloc (.cells (arr b) 22)).alloc (.cells (arr b) 22)) :=
    (((((Below.refl _ _).alloc (Nat.le_refl _) _).alloc (by simp) _).alloc (by simp; omega) _ |>.alloc (by simp; omega) _).alloc (by simp; omega) _)
  exact ⟨hb.os, hb.tape, hb.output, by unfold DecW; rw [setRow_size]; exact hb.size, fun k hk => (setRow_other _ _ _ _ (by omega)).trans (hb.block k hk)⟩

set_option maxHeartbeats 400000 in
set_option maxRecDepth 100000 in
theorem dec9 (c b : Nat → Int) (w : World) (hc : ∀ i, 0 ≤ c i ∧ c i ≤ 255) (hb : ∀ i, 0 ≤ b i ∧ b i ≤ 255) (ha : Adds b c 1) :
    Calls Try.prog 9 #[.agg (arr c)] w fun e w' => e = .returned (.agg (arr b)) ∧ w' = DecW c b zeros w := by
  have H7 := fun W => load7 c W hc
  have HB : Hid (∀ i, 0 ≤ b i ∧ b i ≤ 255) := hb
  obtain ⟨l0, l1⟩ := word c hc 8
  obtain ⟨h0, h1⟩ := word c hc 0
  obtain ⟨hlo, hhi⟩ := ha
  obtain ⟨l0', l1'⟩ := word b hb 8
  obtain ⟨h0', h1'⟩ := word b hb 0
  have hD := arr_D hb
  clear hb hc
  generalize H c 8 8 = lo at *
  generalize H c 0 8 = hi at *
  generalize H b 8 8 = lo' at *
  generalize H b 0 8 = hi' at *
  have H8 := fun W => store8 hi' lo' W h0' h1' l0' l1'
  rw [hD] at H8
  clear hD
  go_enter Try.func9, Try.ntmps9
  go_wp2_with (refine wpList_load_row rfl 22 _ rfl w.heap.size rfl 22 (arr c) (0, 0) _ (row_arr ((arr_row w c 22).alloc _)) Try.underlying22 rfl Try.size22 ?_)
  refine (H7 _).mono ?_
  rintro e w2 ⟨rfl, rfl⟩
  by_cases hz : lo = 0
  · subst hz
    obtain rfl : lo' = 18446744073709551615 := by omega
    by_cases hm : hi = 0
    · subst hm
      obtain rfl : hi' = 18446744073709551615 := by omega
      clear hlo hhi
      go_wp2_with fail
      refine (H8 _).mono ?_
      rintro e w3 ⟨rfl, rfl⟩
      go_wp2_with (refine wpList_store_row rfl 22 _ _ rfl (w.heap.size + 1) (arr b) rfl rfl 22 _ (dec_block w c b) Try.size22 rfl (arr_one b) ?_)
      exact bodyPost_ret (v := .agg (arr b)) (results_cell_row Try.results9 _ _ (w.heap.size + 1) 22 (arr b) (0, 0) _ rfl (setRow_heap _ _ _ _ _ _ (dec_block w c b)) Try.underlying22 rfl Try.size22) rfl ⟨rfl, rfl⟩
    · obtain rfl : hi' = hi - 1 := by omega
      have hge : 1 ≤ hi := by omega
      clear hlo hhi hm
      go_wp2_with fail
      refine (H8 _).mono ?_
      rintro e w3 ⟨rfl, rfl⟩
      go_wp2_with (refine wpList_store_row rfl 22 _ _ rfl (w.heap.size + 1) (arr b) rfl rfl 22 _ (dec_block w c b) Try.size22 rfl (arr_one b) ?_)
      exact bodyPost_ret (v := .agg (arr b)) (results_cell_row Try.results9 _ _ (w.heap.size + 1) 22 (arr b) (0, 0) _ rfl (setRow_heap _ _ _ _ _ _ (dec_block w c b)) Try.underlying22 rfl Try.size22) rfl ⟨rfl, rfl⟩
  · obtain rfl : lo' = lo - 1 := by omega
    obtain rfl : hi' = hi := by omega
    have hge : 1 ≤ lo := by omega
    have hq : (lo == 0) = false := by rw [beq_eq_false_iff_ne]; exact hz
    clear hlo hhi hz
    go_wp2_with fail
    refine (H8 _).mono ?_
    rintro e w3 ⟨rfl, rfl⟩
    go_wp2_with (refine wpList_store_row rfl 22 _ _ rfl (w.heap.size + 1) (arr b) rfl rfl 22 _ (dec_block w c b) Try.size22 rfl (arr_one b) ?_)
    exact bodyPost_ret (v := .agg (arr b)) (results_cell_row Try.results9 _ _ (w.heap.size + 1) 22 (arr b) (0, 0) _ rfl (setRow_heap _ _ _ _ _ _ (dec_block w c b)) Try.underlying22 rfl Try.size22) rfl ⟨rfl, rfl⟩
end Go.Proofs.Qxb6605482a
