/-
  SEAT b6605435a. BYTE SLICES THAT THE LAW ITSELF HAS MADE ('Own'): nil, or a row of bytes in a block of the call's own; the comparison of such a slice with itself; the clones; the window.
-/
import Derived.Test.Qxb6605435aLeaf
namespace Go.Proofs.Qxb6605435a
open Go.RowKit

theorem Try.info5 : (Try.prog.info? 5).map (fun i => (i.zero, i.size, i.bytes)) = some (some (.int .u8 0), 1, 1) := by kernel_rfl
theorem Try.info24 : (Try.prog.info? 24).map (fun i => (i.zero, i.size, i.bytes)) = some (some (.slice none 0 0), 1, 24) := by kernel_rfl

/-- THE SLICE '.slice ao l l' IS nil OR A WHOLE ROW OF BYTES. -/
def Own (w : World) (ao : Option Addr) (l : Nat) : Prop :=
  (ao = none ∧ l = 0) ∨ ∃ (g : Nat) (Z : Nat → Int), ao = some ⟨g, 0, none⟩ ∧ l ≤ 9223372036854775807 ∧ w.rowIs g 5 l (fun j => .int .u8 (Z j))

/-- .. of a value. -/
def OwnV (w : World) (v : Value) : Prop := ∃ ao l, v = .slice ao l l ∧ Own w ao l

theorem rowIs_drewN {w : World} {b : Nat} {t : TypeId} {n : Nat} {f : Nat → Value} (h : w.rowIs b t n f) (q : Nat) : (w.drewN q).rowIs b t n f := h
theorem rowIs_below {w w' : World} {B b : Nat} {t : TypeId} {n : Nat} {f : Nat → Value} (h : w.rowIs b t n f) (hb : Below B w w') (hB : w.heap.size ≤ B) : w'.rowIs b t n f := h.of_block (hb.block b (Nat.lt_of_lt_of_le h.lt hB))
theorem rowIs_type {w : World} {b b' : Nat} {t t' : TypeId} {n n' : Nat} {f f' : Nat → Value} (h : w.rowIs b t n f) (h' : w.rowIs b' t' n' f') (ht : t ≠ t') : b ≠ b' := by
  rintro rfl
  obtain ⟨c, hb, _, _⟩ := h
  obtain ⟨c', hb', _, _⟩ := h'
  rw [hb] at hb'
  simp at hb'
  exact ht hb'.2
theorem Own.of_block {w w' : World} {ao : Option Addr} {l : Nat} (h : Own w ao l) (hk : ∀ (g l : Nat) (Z : Nat → Value), w.rowIs g 5 l Z → w'.heap[g]? = w.heap[g]?) : Own w' ao l := by
  rcases h with h | ⟨g, Z, hv, hl, hr⟩
  · exact Or.inl h
  · exact Or.inr ⟨g, Z, hv, hl, hr.of_block (hk g l _ hr)⟩
theorem Own.drewN {w : World} {ao : Option Addr} {l : Nat} (h : Own w ao l) (q : Nat) : Own (w.drewN q) ao l := h
theorem Own.alloc {w : World} {ao : Option Addr} {l : Nat} (h : Own w ao l) (o : Obj) : Own (w.alloc o) ao l := by
  rcases h with h | ⟨g, Z, hv, hl, hr⟩
  · exact Or.inl h
  · exact Or.inr ⟨g, Z, hv, hl, hr.alloc o⟩
theorem Own.setCell {w : World} {ao : Option Addr} {l : Nat} (h : Own w ao l) {b : Nat} {t : TypeId} {n : Nat} {f : Nat → Value} (hb : w.rowIs b t n f) (ht : t ≠ 5) (i : Nat) (u : Value) : Own (w.setCell ⟨b, i, none⟩ u) ao l := by
  rcases h with h | ⟨g, Z, hv, hl, hr⟩
  · exact Or.inl h
  · exact Or.inr ⟨g, Z, hv, hl, hr.setOther (rowIs_type hr hb (fun e => ht e.symm)) u⟩
theorem Own.below {w w' : World} {ao : Option Addr} {l : Nat} {B : Nat} (h : Own w ao l) (hb : Below B w w') (hB : w.heap.size ≤ B) : Own w' ao l :=
  h.of_block (fun g _ _ hr => hb.block g (Nat.lt_of_lt_of_le hr.lt hB))
theorem OwnV.below {w w' : World} {v : Value} {B : Nat} (h : OwnV w v) (hb : Below B w w') (hB : w.heap.size ≤ B) : OwnV w' v := by
  obtain ⟨ao, l, rfl, h⟩ := h
  exact ⟨ao, l, rfl, h.below hb hB⟩
theorem OwnV.setCell {w : World} {v : Value} (h : OwnV w v) {b : Nat} {t : TypeId} {n : Nat} {f : Nat → Value} (hb : w.rowIs b t n f) (ht : t ≠ 5) (i : Nat) (u : Value) : OwnV (w.setCell ⟨b, i, none⟩ u) v := by
  obtain ⟨ao, l, rfl, h⟩ := h
  exact ⟨ao, l, rfl, h.setCell hb ht i u⟩
theorem ownV_nil (w : World) : OwnV w (.slice none 0 0) := ⟨none, 0, rfl, Or.inl ⟨rfl, rfl⟩⟩

/-! ### zzBytesEq of a slice with itself -/

set_option maxHeartbeats 400000 in
theorem bytesEq_nil (w : World) : Calls Try.prog 14 #[.slice none 0 0, .slice none 0 0] w fun e w' => e = .returned (.bool true) ∧ ∃ q, w' = w.drewN q := by
  have hnil := fun (a : Option Addr) (n c : Nat) (w : World) => Lib.run_eql_slice_nil (P := Try.prog) w 24 5 a n c 0 0 Try.underlying24
  go_enter Try.func14, Try.ntmps14
  go_wp2
  refine wp_loop_rounds 1 ?_; rw [rounds_succ]
  go_wp2
  go_ret
  exact ⟨rfl, 0, rfl⟩

set_option maxHeartbeats 400000 in
theorem bytesEq_row (g l : Nat) (Z : Nat → Int) (w : World) (hl : l ≤ 9223372036854775807) (hr : w.rowIs g 5 l (fun j => .int .u8 (Z j))) :
    Calls Try.prog 14 #[.slice (some ⟨g, 0, none⟩) l l, .slice (some ⟨g, 0, none⟩) l l] w fun e w' => e = .returned (.bool true) ∧ ∃ q, w' = w.drewN q := by
  have hnil := fun (a : Option Addr) (n c : Nat) (w : World) => Lib.run_eql_slice_nil (P := Try.prog) w 24 5 a n c 0 0 Try.underlying24
  go_enter Try.func14, Try.ntmps14
  go_wp2
  go_loopw [5] (fun i wr => ∃ k q : Nat, k ≤ l ∧ i = .int .i64 k ∧ wr = w.drewN q) (fun i _ => l - (intOf i).toNat)
  case atStart => exact ⟨0, 0, Nat.zero_le _, rfl, rfl⟩
  case round =>
    obtain ⟨k, q, hk, rfl, rfl⟩ := hrel
    by_cases hlt : k < l
    · have hc : w.cell? ⟨g, k, none⟩ = some (.int .u8 (Z k)) := hr.cell hlt
      have hltI : (k : Int) < (l : Int) := by omega
      clear hr hnil
      go_wp2
      go_quiet (fail)
      go_wp2
      go_roundw
      case rel => exact ⟨k + 1, _, by omega, by go_num, rfl⟩
      case measure => simp [intOf]; omega
    · go_wp2
      go_ret
      exact ⟨rfl, q, rfl⟩

theorem bytesEq (ao : Option Addr) (l : Nat) (w : World) (h : Own w ao l) : Calls Try.prog 14 #[.slice ao l l, .slice ao l l] w fun e w' => e = .returned (.bool true) ∧ ∃ q, w' = w.drewN q := by
  rcases h with ⟨rfl, rfl⟩ | ⟨g, Z, rfl, hl, hr⟩
  · exact bytesEq_nil w
  · exact bytesEq_row g l Z w hl hr

/-! ### zzCloneBytes -/

/-- WHAT THE WALKS ARE TOLD OF A []byte THAT CAME IN. -/
def BytesIn (w : World) (ao : Option Addr) (l : Nat) : Prop := ∀ j, j < l → ∃ b off z, ao = some ⟨b, off, none⟩ ∧ w.cell? ⟨b, off + j, none⟩ = some (.int .u8 z)
theorem BytesIn.below {w w' : World} {ao : Option Addr} {l B : Nat} (h : BytesIn w ao l) (hb : Below B w w') (hB : w.heap.size ≤ B) : BytesIn w' ao l := fun j hj => by
  obtain ⟨b, off, z, e, hc⟩ := h j hj
  exact ⟨b, off, z, e, (hb.cell (p := ⟨b, off + j, none⟩) (Nat.lt_of_lt_of_le (World.block_lt_of_cell? _ _ hc) hB)).trans hc⟩

/-- The new row, all of it bytes. -/
def ByteRow (w : World) (g l : Nat) : Prop := ∃ Z : Nat → Int, w.rowIs g 5 l (fun j => .int .u8 (Z j))
theorem byteRow_made (w : World) (l : Nat) : ByteRow (w.alloc (.cells (madeCells #[.int .u8 0] l) 5)) w.heap.size l := ⟨fun _ => 0, World.rowIs_made w _ l 5⟩
theorem byteRow_set {w : World} {g l : Nat} (h : ByteRow w g l) (k : Nat) (z : Int) : ByteRow (w.setCell ⟨g, k, none⟩ (.int .u8 z)) g l := by
  obtain ⟨Z, h⟩ := h
  exact ⟨fun j => if j = k then z else Z j, (h.set k (.int .u8 z)).congr (fun j _ => by by_cases e : j = k <;> simp [e])⟩
theorem own_byteRow {w : World} {g l : Nat} (h : ByteRow w g l) (hl : l ≤ 9223372036854775807) : Own w (some ⟨g, 0, none⟩) l := by
  obtain ⟨Z, h⟩ := h
  exact Or.inr ⟨g, Z, rfl, hl, h⟩

/-- What a clone hands back. -/
def Cloned (w : World) (e : Ending) (w' : World) : Prop := ∃ ao l, e = .returned (.slice ao l l) ∧ Own w' ao l ∧ Below w.heap.size w w'
theorem cloned_nil (w : World) : Cloned w (.returned (.slice none 0 0)) w := ⟨none, 0, rfl, Or.inl ⟨rfl, rfl⟩, Below.refl _ _⟩
theorem cloned_row {w w' : World} {g l : Nat} (h : ByteRow w' g l) (hl : l ≤ 9223372036854775807) (hb : Below w.heap.size w w') : Cloned w (.returned (.slice (some ⟨g, 0, none⟩) l l)) w' := ⟨_, l, rfl, own_byteRow h hl, hb⟩

set_option maxHeartbeats 400000 in
theorem cloneBytes (ao : Option Addr) (l c : Nat) (w : World) (hl : l ≤ 1048576) (hnone : ao = none → l = 0 ∧ c = 0) (hB : BytesIn w ao l) :
    Calls Try.prog 10 #[.slice ao l c] w fun e w' => Cloned w e w' := by
  have hnil := fun (a : Option Addr) (n c : Nat) (w : World) => Lib.run_eql_slice_nil (P := Try.prog) w 24 5 a n c 0 0 Try.underlying24
  rcases ao with _ | ad
  · obtain ⟨rfl, rfl⟩ := hnone rfl
    clear hnone hB
    go_enter Try.func10, Try.ntmps10
    go_wp2
    go_ret
    exact cloned_nil w
  · clear hnone
    have hmk := run_make_row' (P := Try.prog) 24 5 (.int .u8 0) 1 Try.underlying24 Try.info5 rfl .i64 .i64 l (by omega) (by omega)
    go_enter Try.func10, Try.ntmps10
    go_wp2
    go_loopw [4] (fun i wr => ∃ k : Nat, k ≤ l ∧ i = .int .i64 k ∧ ByteRow wr w.heap.size l ∧ Below w.heap.size w wr) (fun i _ => l - (intOf i).toNat)
    case atStart => exact ⟨0, Nat.zero_le _, rfl, byteRow_made w l, (Below.refl _ _).alloc (Nat.le_refl _) _⟩
    case round =>
      obtain ⟨k, hk, rfl, hrow, hbel⟩ := hrel
      by_cases hlt : k < l
      · obtain ⟨b, off, z, e, hc⟩ := hB k hlt
        obtain rfl : ad = ⟨b, off, none⟩ := by simpa using e
        have hc' : wr.cell? ⟨b, off + k, none⟩ = some (.int .u8 z) := (hbel.cell (p := ⟨b, off + k, none⟩) (World.block_lt_of_cell? _ _ hc)).trans hc
        have HR : Hid (ByteRow (wr.setCell ⟨w.heap.size, k, none⟩ (.int .u8 z)) w.heap.size l ∧ Below w.heap.size w (wr.setCell ⟨w.heap.size, k, none⟩ (.int .u8 z))) :=
          ⟨byteRow_set hrow k z, hbel.setCell (Nat.le_refl _) _⟩
        obtain ⟨Z, hr⟩ := hrow
        have ht : wr.cell? ⟨w.heap.size, k, none⟩ = some (.int .u8 (Z k)) := hr.cell hlt
        have hf : wr.frozen? ⟨w.heap.size, k, none⟩ = false := hr.frozen k
        clear hr hbel hB hmk hnil hc e
        go_wp2
        go_roundw
        case rel => exact ⟨k + 1, by omega, by go_num, HR.out.1, HR.out.2⟩
        case measure => simp [intOf]; omega
      · go_wp2
        go_ret
        exact cloned_row hrow (by omega) hbel

/-! ### zzCloneCells -/

/-- A row of byte slices of the call's own. -/
structure CRow (w : World) (B n : Nat) (F : Nat → Value) : Prop where
  row : w.rowIs B 24 n F
  own : ∀ i, i < n → OwnV w (F i)

theorem CRow.made (w : World) (n : Nat) : CRow (w.alloc (.cells (madeCells #[.slice none 0 0] n) 24)) w.heap.size n (fun _ => .slice none 0 0) :=
  ⟨World.rowIs_made w _ n 24, fun _ _ => ownV_nil _⟩
theorem CRow.below {w w' : World} {B n : Nat} {F : Nat → Value} (h : CRow w B n F) (hb : Below w.heap.size w w') : CRow w' B n F :=
  ⟨rowIs_below h.row hb (Nat.le_refl _), fun i hi => (h.own i hi).below hb (Nat.le_refl _)⟩
theorem CRow.set {w : World} {B n : Nat} {F : Nat → Value} (h : CRow w B n F) (k : Nat) {v : Value} (hv : OwnV w v) : CRow (w.setCell ⟨B, k, none⟩ v) B n (fun j => if j = k then v else F j) :=
  ⟨h.row.set k v, fun i hi => by
    show OwnV _ (if i = k then v else F i)
    split
    · exact hv.setCell h.row (by decide) k v
    · exact (h.own i hi).setCell h.row (by decide) k v⟩
theorem CRow.drewN {w : World} {B n : Nat} {F : Nat → Value} (h : CRow w B n F) (q : Nat) : CRow (w.drewN q) B n F := ⟨h.row, h.own⟩
theorem CRow.alloc {w : World} {B n : Nat} {F : Nat → Value} (h : CRow w B n F) (o : Obj) : CRow (w.alloc o) B n F :=
  h.below ((Below.refl _ _).alloc (Nat.le_refl _) o)
theorem CRow.cell {w : World} {B n : Nat} {F : Nat → Value} (h : CRow w B n F) {i : Nat} (hi : i < n) : ∃ ao l, w.cell? ⟨B, i, none⟩ = some (.slice ao l l) ∧ F i = .slice ao l l ∧ Own w ao l := by
  obtain ⟨ao, l, e, ho⟩ := h.own i hi
  exact ⟨ao, l, by rw [h.row.cell hi, e], e, ho⟩

/-- All of what 'cells [][]byte' is, as it came in. -/
structure Arg (w : World) (ao : Option Addr) (n c : Nat) (A : Nat → Option Addr) (L C : Nat → Nat) : Prop where
  cells : CellsIn w ao n A L C
  bare : ao = none → n = 0 ∧ c = 0
  inner : ∀ i, i < n → (A i = none → L i = 0 ∧ C i = 0) ∧ BytesIn w (A i) (L i)

/-- What zzCloneCells hands back. -/
def ClonedC (w : World) (n : Nat) (e : Ending) (w' : World) : Prop :=
  ∃ F, e = .returned (.slice (some ⟨w.heap.size, 0, none⟩) n n) ∧ CRow w' w.heap.size n F ∧ Below w.heap.size w w'
theorem clonedC_mk {w w' : World} {n : Nat} (h : ∃ F, CRow w' w.heap.size n F) (hb : Below w.heap.size w w') : ClonedC w n (.returned (.slice (some ⟨w.heap.size, 0, none⟩) n n)) w' := by
  obtain ⟨F, h⟩ := h
  exact ⟨F, rfl, h, hb⟩

set_option maxHeartbeats 400000 in
theorem cloneCells_nil (w : World) : Calls Try.prog 9 #[.slice none 0 0] w fun e w' => e = .returned (.slice none 0 0) ∧ w' = w := by
  have hnil := fun (a : Option Addr) (n c : Nat) (w : World) => Lib.run_eql_slice_nil (P := Try.prog) w 23 24 a n c 0 0 Try.underlying23
  go_enter Try.func9, Try.ntmps9
  go_wp2
  go_ret
  exact ⟨rfl, rfl⟩

set_option maxHeartbeats 400000 in
theorem cloneCells (ad : Addr) (n c : Nat) (A : Nat → Option Addr) (L C : Nat → Nat) (w : World) (hn : n ≤ 65536) (hL : ∀ i, i < n → L i ≤ 1048576) (hA : Arg w (some ad) n c A L C) :
    Calls Try.prog 9 #[.slice (some ad) n c] w fun e w' => ClonedC w n e w' := by
  have hnil := fun (a : Option Addr) (n c : Nat) (w : World) => Lib.run_eql_slice_nil (P := Try.prog) w 23 24 a n c 0 0 Try.underlying23
  have hmk := run_make_row' (P := Try.prog) 23 24 (.slice none 0 0) 24 Try.underlying23 Try.info24 rfl .i64 .i64 n (by omega) (by omega)
  have HL : Hid (∀ i, i < n → L i ≤ 1048576) := hL
  clear hL
  go_enter Try.func9, Try.ntmps9
  go_wp2
  clear hmk hnil
  go_loopw [4] (fun i wr => ∃ k : Nat, k ≤ n ∧ i = .int .i64 k ∧ (∃ F, CRow wr w.heap.size n F) ∧ Below w.heap.size w wr) (fun i _ => n - (intOf i).toNat)
  case atStart => exact ⟨0, Nat.zero_le _, rfl, ⟨_, CRow.made w n⟩, (Below.refl _ _).alloc (Nat.le_refl _) _⟩
  case round =>
    obtain ⟨k, hk, rfl, hrow, hbel⟩ := hrel
    by_cases hlt : k < n
    · obtain ⟨b, off, e, hc, hlk⟩ := hA.cells k hlt
      obtain rfl : ad = ⟨b, off, none⟩ := by simpa using e
      have hc' : wr.cell? ⟨b, off + k, none⟩ = some (.slice (A k) (L k) (C k)) := (hbel.cell (p := ⟨b, off + k, none⟩) (World.block_lt_of_cell? _ _ hc)).trans hc
      have hclone := cloneBytes (A k) (L k) (C k) wr (HL.out k hlt) (hA.inner k hlt).1 ((hA.inner k hlt).2.below hbel (Nat.le_refl _))
      obtain ⟨F, hF⟩ := hrow
      have HC := hclone
      clear hc e hclone hA hlk
      go_wp2_with (go_at_call 10; refine HC.mono ?_; clear HC; rintro e w1 ⟨ao1, l1, rfl, hown1, hb1⟩; have hF1 := hF.below hb1; have hst1 := hF1.row.cell hlt; have hst2 := hF1.row.frozen k)
      go_roundw
      case rel => exact ⟨k + 1, by omega, by go_num, ⟨_, hF1.set k ⟨ao1, l1, rfl, hown1⟩⟩, (hbel.trans (hb1.mono hbel.size)).setCell (Nat.le_refl _) _⟩
      case measure => simp [intOf]; omega
    · go_wp2
      go_ret
      obtain rfl : k = n := by omega
      exact clonedC_mk hrow hbel
end Go.Proofs.Qxb6605435a
