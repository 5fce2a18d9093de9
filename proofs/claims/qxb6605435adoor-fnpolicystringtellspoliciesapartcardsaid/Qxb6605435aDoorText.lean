/-
  SEAT b6605435aD. Policy.String: THE TEXT, by the shelf's contracts on strconv.Itoa and strings.Builder.
-/
import Derived.Test.Qxb6605435aDoorLeaf
import Derived.Test.Qxb6605435aDoorShelf
import Derived.Lib.AppendIntMem
import Derived.WalkSmall
namespace Go.Proofs.Qxb6605435aDoor
open Go.RowKit

theorem Tryd.pow10 : Tryd.prog.globalNamed powName = some 0 := by kernel_rfl

/-- The table of powers, as the shelf asks it. -/
def Tab (w : World) : Prop := Lib.TabIs Tryd.prog w powName .u64 Lib.pow10Tab
theorem Tab.lt {w : World} (h : Tab w) : 0 < w.heap.size := by
  unfold Tab Lib.TabIs World.var? at h
  rw [Tryd.pow10] at h
  simp only [Option.bind_some] at h
  by_cases hl : 0 < w.heap.size
  · exact hl
  · rw [Array.getElem?_eq_none (by omega)] at h
    simp at h
theorem Tab.below {w w' : World} {B : Nat} (h : Tab w) (hb : Below B w w') (hB : w.heap.size ≤ B) : Tab w' := var?_below hb Tryd.pow10 (Nat.lt_of_lt_of_le h.lt hB) h

/-- New blocks and draws alone. -/
theorem builder_grow {B b : Nat} {bs : List Value} {w : World} (h : Lib.IsBuilder 33 5 B b bs w) (q : Nat) (os : Array Obj) : Lib.IsBuilder 33 5 B b bs (Sort.grow (w.drewN q) os) := by
  have key : ∀ p, Lib.BuilderAt 33 5 B b p bs w → Lib.BuilderAt 33 5 B b p bs (Sort.grow (w.drewN q) os) := fun p h => by
    have hlt := h.lt
    obtain ⟨hB, v, hb, hown, hne⟩ := h
    have hg : w.grownBy (Sort.grow (w.drewN q) os) none := ⟨rfl, rfl, rfl, by simp, fun k hk _ => Sort.heap_grow_old _ _ (by simpa using hk)⟩
    refine ⟨hB, v, (Sort.heap_grow_old _ _ (by simpa using hlt)).trans hb, hown.kept hg ?_, hne⟩
    by_cases e : v.ownBlock = none
    · exact Or.inl e
    · exact Or.inr e
  exact h.elim (fun x => Or.inl (key _ x)) (fun x => Or.inr (key _ x))
theorem below_grow {B : Nat} {a w : World} (h : Below B a w) (hB : B ≤ w.heap.size) (q : Nat) (os : Array Obj) : Below B a (Sort.grow (w.drewN q) os) :=
  h.trans ⟨rfl, rfl, rfl, by simp, fun k hk => Sort.heap_grow_old _ _ (by simp; omega)⟩
theorem builder_new (w : World) (o : Obj) : Lib.IsBuilder 33 5 (w.heap.size + 1) (w.heap.size + 1) (Lib.byteCells []) ((w.alloc o).alloc (.cells #[.pointer none, .slice none 0 0] 33)) := by
  refine Or.inl ⟨Nat.le_refl _, .slice none 0 0, ?_, World.ownsRow_nil _ _ _ _, by simp [Value.ownBlock]⟩
  show ((w.heap.push o).push _)[w.heap.size + 1]? = _
  rw [Array.getElem?_push, if_pos (by simp)]

/-- WHEN THE AGE IS k: the builder holds what has been written; nothing old has turned. -/
structure Bld (w wr : World) (bo : Option Addr) (n : Nat) (sep : List UInt8) (Z : Nat → Int) (k : Nat) (l : List UInt8) : Prop where
  txt : l ++ R sep Z k = R sep Z n
  bld : Lib.IsBuilder 33 5 (w.heap.size + 1) (w.heap.size + 1) (Lib.byteCells l) wr
  below : Below (w.heap.size + 1) (w.alloc (.cells #[.slice bo n n] 27)) wr
theorem Bld.size {w wr : World} {bo : Option Addr} {n : Nat} {sep : List UInt8} {Z : Nat → Int} {k : Nat} {l : List UInt8} (h : Bld w wr bo n sep Z k l) : w.heap.size + 1 < wr.heap.size :=
  h.bld.elim (fun x => x.lt) (fun x => x.lt)
theorem Bld.old {w wr : World} {bo : Option Addr} {n : Nat} {sep : List UInt8} {Z : Nat → Int} {k : Nat} {l : List UInt8} (h : Bld w wr bo n sep Z k l) : Below w.heap.size w wr :=
  ((Below.refl _ _).alloc (Nat.le_refl _) _).trans (h.below.mono (by omega))
theorem Bld.box {w wr : World} {bo : Option Addr} {n : Nat} {sep : List UInt8} {Z : Nat → Int} {k : Nat} {l : List UInt8} (h : Bld w wr bo n sep Z k l) : wr.cell? ⟨w.heap.size, 0, none⟩ = some (.slice bo n n) := by
  rw [h.below.cell (p := ⟨w.heap.size, 0, none⟩) (Nat.lt_succ_self _)]
  exact (World.rowIs_alloc w #[.slice bo n n] 27 (fun _ => .slice bo n n) (fun i hi => by
    obtain rfl : i = 0 := by simpa using hi
    rfl)).cell (i := 0) (by simp)
theorem Bld.len {w wr : World} {bo : Option Addr} {n : Nat} {sep : List UInt8} {Z : Nat → Int} {k : Nat} {l : List UInt8} (h : Bld w wr bo n sep Z k l) (hs : sep.length ≤ 1) (hZ : ∀ i, -9223372036854775808 ≤ Z i ∧ Z i ≤ 9223372036854775807) : l.length + (R sep Z k).length ≤ 22 * n := by
  have h1 := R_length sep hs Z hZ n
  have h2 := congrArg List.length h.txt
  rw [List.length_append] at h2
  omega

set_option maxHeartbeats 1000000 in
theorem text8_many (bo : Option Addr) (n : Nat) (Z : Nat → Int) (w : World) (h9 : 9 < n) (hn : n ≤ 65536) (hZ : ∀ i, -9223372036854775808 ≤ Z i ∧ Z i ≤ 9223372036854775807) (hO : OwnI w bo n Z) (htab : Tab w) :
    Calls Tryd.prog 8 #[.agg #[.slice bo n n]] w fun e w' => e = .returned (.string ⟨(R [44] Z n).toArray⟩) ∧ Below w.heap.size w w' := by
  have HZ : Hid (∀ i, -9223372036854775808 ≤ Z i ∧ Z i ≤ 9223372036854775807) := hZ
  have HT : Hid (Tab w) := htab
  clear hZ htab
  have hq9 : decide ((9 : Int) < (n : Int)) = true := decide_eq_true (by omega)
  go_enter Tryd.func8, Tryd.ntmps8
  go_wp2_with fail
  have hB0 : Bld w ((w.alloc (.cells #[.slice bo n n] 27)).alloc (.cells #[.pointer none, .slice none 0 0] 33)) bo n [44] Z n [] := ⟨rfl, builder_new w _, (Below.refl _ _).alloc (by simp) _⟩
  go_loopw [5] (fun i wr => ∃ k : Nat, k ≤ n ∧ i = .int .i64 k ∧ ∃ l, Bld w wr bo n [44] Z k l) (fun i _ => (intOf i).toNat)
  case atStart => exact ⟨n, Nat.le_refl _, rfl, [], hB0⟩
  case round =>
    obtain ⟨k, hk, rfl, l, hB⟩ := hrel
    clear hB0
    by_cases hk0 : 1 ≤ k
    · obtain ⟨k, rfl⟩ : ∃ j, k = j + 1 := ⟨k - 1, by omega⟩
      have hbox := hB.box
      obtain ⟨g, rfl, hcg⟩ := (hO.below hB.old (Nat.le_refl _)).cell (i := k) (by omega)
      have htab : Tab wr := HT.out.below hB.old (Nat.le_refl _)
      have hItoa := Tryd.strconv_Itoa (Z k) (HZ.out k).1 (HZ.out k).2 wr htab
      have hlen := hB.len (by simp) HZ.out
      have h21 := Lib.itoa_length_le (Z k) (HZ.out k).1 (HZ.out k).2
      have HB : Hid (Bld w wr (some ⟨g, 0, none⟩) n [44] Z (k + 1) l) := hB
      clear hB htab hO
      go_wp2_with fail
      refine hItoa.mono ?_
      clear hItoa
      rintro e w1 ⟨rfl, q1, os1, hw1⟩
      have hI1 : Lib.IsBuilder 33 5 (w.heap.size + 1) (w.heap.size + 1) (Lib.byteCells l) w1 := by rw [hw1]; exact builder_grow HB.out.bld q1 os1
      have hb1 : Below (w.heap.size + 1) (w.alloc (.cells #[.slice (some ⟨g, 0, none⟩) n n] 27)) w1 := by rw [hw1]; exact below_grow HB.out.below (Nat.le_of_lt HB.out.size) q1 os1
      have hz1 : w.heap.size + 1 ≤ w1.heap.size := by rw [hw1]; have := HB.out.size; simp; omega
      clear hw1
      have hW := Tryd.Builder_WriteString (w.heap.size + 1) (w.heap.size + 1) (Lib.byteCells l) ⟨(Lib.itoa (Z k)).toArray⟩ w1 hI1 (by rw [Lib.byteCells_length]; show l.length + (Lib.itoa (Z k)).toArray.size ≤ _; rw [List.size_toArray]; omega) hz1
      go_wp2_with fail
      refine hW.mono ?_
      clear hW
      rintro e w2 ⟨rfl, hA2, hb2⟩
      have hI2 : Lib.IsBuilder 33 5 (w.heap.size + 1) (w.heap.size + 1) (Lib.byteCells (l ++ Lib.itoa (Z k))) w2 := by rw [Lib.byteCells_append]; exact Or.inr hA2
      have hbel2 := hb1.trans hb2
      have hz2 : w.heap.size + 1 ≤ w2.heap.size := Nat.le_trans hz1 hb2.size
      have HX : Hid ((l ++ Lib.itoa (Z k)) ++ ((if 0 < k then [44] else []) ++ R [44] Z k) = R [44] Z n) := by
        show _ = _
        rw [List.append_assoc]
        exact HB.out.txt
      clear hI1 hb1 hA2 hb2 HB hz1
      by_cases hk1 : 0 < k
      · have hW := Tryd.Builder_WriteString (w.heap.size + 1) (w.heap.size + 1) (Lib.byteCells (l ++ Lib.itoa (Z k))) ⟨#[44]⟩ w2 hI2 (by rw [Lib.byteCells_length, List.length_append]; show _ + (#[44] : Array UInt8).size ≤ _; simp only [List.size_toArray, List.length_cons, List.length_nil]; omega) hz2
        go_wp2_with fail
        refine hW.mono ?_
        clear hW
        rintro e w3 ⟨rfl, hA3, hb3⟩
        have HN : Hid (∃ l, Bld w w3 (some ⟨g, 0, none⟩) n [44] Z k l) := ⟨(l ++ Lib.itoa (Z k)) ++ [44], by rw [List.append_assoc]; have := HX.out; rwa [if_pos hk1] at this, by rw [Lib.byteCells_append]; exact Or.inr hA3, hbel2.trans hb3⟩
        clear hI2 hbel2 hA3 hb3 hz2 HX
        go_wp2_with fail
        go_roundw
        case rel => exact ⟨k, by omega, by go_num, HN.out⟩
        case measure => simp [intOf] <;> omega
      · obtain rfl : k = 0 := by omega
        have HN : Hid (∃ l, Bld w w2 (some ⟨g, 0, none⟩) n [44] Z 0 l) := ⟨l ++ Lib.itoa (Z 0), by have := HX.out; rwa [if_neg hk1, List.nil_append] at this, hI2, hbel2⟩
        clear hI2 hbel2 hz2 HX
        go_wp2_with fail
        go_roundw
        case rel => exact ⟨0, by omega, by go_num, HN.out⟩
        case measure => simp [intOf] <;> omega
    · obtain rfl : k = 0 := by omega
      have hS := Tryd.Builder_String_any (w.heap.size + 1) (w.heap.size + 1) l wr hB.bld (Nat.le_of_lt hB.size)
      have hl : l = R [44] Z n := by have := hB.txt; rwa [show R [44] Z 0 = [] from rfl, List.append_nil] at this
      rw [hl] at hS
      have HO : Hid (Below w.heap.size w wr) := hB.old
      clear hB hl hO
      go_wp2_with fail
      refine hS.mono ?_
      clear hS
      rintro e w3 ⟨rfl, hb3⟩
      have HO3 : Hid (Below w.heap.size w w3) := HO.out.trans (hb3.mono (by omega))
      clear hb3
      go_wp2_with fail
      go_ret
      exact ⟨rfl, HO3.out⟩

set_option maxHeartbeats 1000000 in
theorem text8_few (bo : Option Addr) (n : Nat) (Z : Nat → Int) (w : World) (h9 : n ≤ 9) (hZ : ∀ i, -9223372036854775808 ≤ Z i ∧ Z i ≤ 9223372036854775807) (hO : OwnI w bo n Z) (htab : Tab w) :
    Calls Tryd.prog 8 #[.agg #[.slice bo n n]] w fun e w' => e = .returned (.string ⟨(R [] Z n).toArray⟩) ∧ Below w.heap.size w w' := by
  have HZ : Hid (∀ i, -9223372036854775808 ≤ Z i ∧ Z i ≤ 9223372036854775807) := hZ
  have HT : Hid (Tab w) := htab
  clear hZ htab
  have hq9 : decide ((9 : Int) < (n : Int)) = false := decide_eq_false (by omega)
  go_enter Tryd.func8, Tryd.ntmps8
  go_wp2_with fail
  have hB0 : Bld w ((w.alloc (.cells #[.slice bo n n] 27)).alloc (.cells #[.pointer none, .slice none 0 0] 33)) bo n [] Z n [] := ⟨rfl, builder_new w _, (Below.refl _ _).alloc (by simp) _⟩
  go_loopw [5] (fun i wr => ∃ k : Nat, k ≤ n ∧ i = .int .i64 k ∧ ∃ l, Bld w wr bo n [] Z k l) (fun i _ => (intOf i).toNat)
  case atStart => exact ⟨n, Nat.le_refl _, rfl, [], hB0⟩
  case round =>
    obtain ⟨k, hk, rfl, l, hB⟩ := hrel
    clear hB0
    by_cases hk0 : 1 ≤ k
    · obtain ⟨k, rfl⟩ : ∃ j, k = j + 1 := ⟨k - 1, by omega⟩
      have hbox := hB.box
      obtain ⟨g, rfl, hcg⟩ := (hO.below hB.old (Nat.le_refl _)).cell (i := k) (by omega)
      have htab : Tab wr := HT.out.below hB.old (Nat.le_refl _)
      have hItoa := Tryd.strconv_Itoa (Z k) (HZ.out k).1 (HZ.out k).2 wr htab
      have hlen := hB.len (by simp) HZ.out
      have h21 := Lib.itoa_length_le (Z k) (HZ.out k).1 (HZ.out k).2
      have HB : Hid (Bld w wr (some ⟨g, 0, none⟩) n [] Z (k + 1) l) := hB
      clear hB htab hO
      go_wp2_with fail
      refine hItoa.mono ?_
      clear hItoa
      rintro e w1 ⟨rfl, q1, os1, hw1⟩
      have hI1 : Lib.IsBuilder 33 5 (w.heap.size + 1) (w.heap.size + 1) (Lib.byteCells l) w1 := by rw [hw1]; exact builder_grow HB.out.bld q1 os1
      have hb1 : Below (w.heap.size + 1) (w.alloc (.cells #[.slice (some ⟨g, 0, none⟩) n n] 27)) w1 := by rw [hw1]; exact below_grow HB.out.below (Nat.le_of_lt HB.out.size) q1 os1
      have hz1 : w.heap.size + 1 ≤ w1.heap.size := by rw [hw1]; have := HB.out.size; simp; omega
      clear hw1
      have hW := Tryd.Builder_WriteString (w.heap.size + 1) (w.heap.size + 1) (Lib.byteCells l) ⟨(Lib.itoa (Z k)).toArray⟩ w1 hI1 (by rw [Lib.byteCells_length]; show l.length + (Lib.itoa (Z k)).toArray.size ≤ _; rw [List.size_toArray]; omega) hz1
      go_wp2_with fail
      refine hW.mono ?_
      clear hW
      rintro e w2 ⟨rfl, hA2, hb2⟩
      have hI2 : Lib.IsBuilder 33 5 (w.heap.size + 1) (w.heap.size + 1) (Lib.byteCells (l ++ Lib.itoa (Z k))) w2 := by rw [Lib.byteCells_append]; exact Or.inr hA2
      have hbel2 := hb1.trans hb2
      have hz2 : w.heap.size + 1 ≤ w2.heap.size := Nat.le_trans hz1 hb2.size
      have HX : Hid ((l ++ Lib.itoa (Z k)) ++ ((if 0 < k then [] else []) ++ R [] Z k) = R [] Z n) := by
        show _ = _
        rw [List.append_assoc]
        exact HB.out.txt
      clear hI1 hb1 hA2 hb2 HB hz1
      by_cases hk1 : 0 < k
      · have hW := Tryd.Builder_WriteString (w.heap.size + 1) (w.heap.size + 1) (Lib.byteCells (l ++ Lib.itoa (Z k))) ⟨#[]⟩ w2 hI2 (by rw [Lib.byteCells_length, List.length_append]; show _ + (#[] : Array UInt8).size ≤ _; simp only [List.size_toArray, List.length_nil]; omega) hz2
        go_wp2_with fail
        refine hW.mono ?_
        clear hW
        rintro e w3 ⟨rfl, hA3, hb3⟩
        have HN : Hid (∃ l, Bld w w3 (some ⟨g, 0, none⟩) n [] Z k l) := ⟨(l ++ Lib.itoa (Z k)) ++ [], by rw [List.append_assoc]; have := HX.out; rwa [if_pos hk1] at this, by rw [Lib.byteCells_append]; exact Or.inr hA3, hbel2.trans hb3⟩
        clear hI2 hbel2 hA3 hb3 hz2 HX
        go_wp2_with fail
        go_roundw
        case rel => exact ⟨k, by omega, by go_num, HN.out⟩
        case measure => simp [intOf] <;> omega
      · obtain rfl : k = 0 := by omega
        have HN : Hid (∃ l, Bld w w2 (some ⟨g, 0, none⟩) n [] Z 0 l) := ⟨l ++ Lib.itoa (Z 0), by have := HX.out; rwa [if_neg hk1, List.nil_append] at this, hI2, hbel2⟩
        clear hI2 hbel2 hz2 HX
        go_wp2_with fail
        go_roundw
        case rel => exact ⟨0, by omega, by go_num, HN.out⟩
        case measure => simp [intOf] <;> omega
    · obtain rfl : k = 0 := by omega
      have hS := Tryd.Builder_String_any (w.heap.size + 1) (w.heap.size + 1) l wr hB.bld (Nat.le_of_lt hB.size)
      have hl : l = R [] Z n := by have := hB.txt; rwa [show R [] Z 0 = [] from rfl, List.append_nil] at this
      rw [hl] at hS
      have HO : Hid (Below w.heap.size w wr) := hB.old
      clear hB hl hO
      go_wp2_with fail
      refine hS.mono ?_
      clear hS
      rintro e w3 ⟨rfl, hb3⟩
      have HO3 : Hid (Below w.heap.size w w3) := HO.out.trans (hb3.mono (by omega))
      clear hb3
      go_wp2_with fail
      go_ret
      exact ⟨rfl, HO3.out⟩

theorem text8 (bo : Option Addr) (n : Nat) (Z : Nat → Int) (w : World) (hn : n ≤ 65536) (hZ : ∀ i, -9223372036854775808 ≤ Z i ∧ Z i ≤ 9223372036854775807) (hO : OwnI w bo n Z) (htab : Tab w) :
    Calls Tryd.prog 8 #[.agg #[.slice bo n n]] w fun e w' => e = .returned (.string ⟨(text Z n).toArray⟩) ∧ Below w.heap.size w w' := by
  unfold text
  by_cases h9 : 9 < n
  · rw [show sepOf n = [44] from if_pos h9]
    exact text8_many bo n Z w h9 hn hZ hO htab
  · rw [show sepOf n = [] from if_neg h9]
    exact text8_few bo n Z w (by omega) hZ hO htab
end Go.Proofs.Qxb6605435aDoor
