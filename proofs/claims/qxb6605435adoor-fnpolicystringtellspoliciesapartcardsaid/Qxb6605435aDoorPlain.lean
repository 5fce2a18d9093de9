/-
  SEAT b6605435aD. THE PLAIN LAW: the policy's text, and that it tells policies apart. No Go in sight.
-/
import Derived.Lib.ItoaNum
import Derived.Lib.ItoaLen
namespace Go.Proofs.Qxb6605435aDoor

/-! ### Numerals -/
theorem digits_byte : ∀ (u : Nat) (c : UInt8), c ∈ Lib.decDigits u → 48 ≤ c.toNat ∧ c.toNat ≤ 57 := by
  intro u
  induction u using Nat.strongRecOn with
  | ind u ih =>
    intro c hc
    rw [Lib.decDigits] at hc
    split at hc
    · rename_i h
      simp only [List.mem_singleton] at hc
      subst hc
      simp only [UInt8.toNat_ofNat']
      omega
    · rename_i h
      rcases List.mem_append.1 hc with h1 | h1
      · exact ih (u / 10) (by omega) c h1
      · simp only [List.mem_singleton] at h1
        subst h1
        simp only [UInt8.toNat_ofNat']
        omega
/-- What a list of digits says. -/
def val (l : List UInt8) : Nat := l.foldl (fun a c => 10 * a + (c.toNat - 48)) 0
theorem val_digits : ∀ u : Nat, val (Lib.decDigits u) = u := by
  intro u
  induction u using Nat.strongRecOn with
  | ind u ih =>
    rw [Lib.decDigits]
    split
    · rename_i h
      simp only [val, List.foldl_cons, List.foldl_nil, UInt8.toNat_ofNat']
      omega
    · rename_i h
      have h1 := ih (u / 10) (by omega)
      unfold val at h1 ⊢
      rw [List.foldl_append, h1]
      simp only [List.foldl_cons, List.foldl_nil, UInt8.toNat_ofNat']
      omega
theorem digits_inj {u v : Nat} (h : Lib.decDigits u = Lib.decDigits v) : u = v := by
  rw [← val_digits u, ← val_digits v, h]
theorem itoa_byte (n : Int) (c : UInt8) (hc : c ∈ Lib.itoa n) : c.toNat ≠ 44 := by
  unfold Lib.itoa at hc
  split at hc
  · rcases List.mem_cons.1 hc with h | h
    · subst h; decide
    · have := digits_byte _ c h; omega
  · have := digits_byte _ c hc; omega
theorem itoa_comma (n : Int) : (44 : UInt8) ∉ Lib.itoa n := fun h => itoa_byte n 44 h rfl
theorem itoa_inj {a b : Int} (h : Lib.itoa a = Lib.itoa b) : a = b := by
  unfold Lib.itoa at h
  have no : ∀ (u : Nat) (l : List UInt8), Lib.decDigits u ≠ 45 :: l := fun u l e => by
    have := digits_byte u 45 (by rw [e]; exact List.mem_cons_self)
    revert this; decide
  split at h <;> split at h
  · have := digits_inj (List.cons.inj h).2
    omega
  · exact absurd h.symm (no _ _)
  · exact absurd h (no _ _)
  · have := digits_inj h
    omega
theorem itoa_digit {n : Int} (h0 : 0 ≤ n) (h9 : n ≤ 9) : Lib.itoa n = [UInt8.ofNat (48 + n.toNat)] := by
  unfold Lib.itoa
  rw [if_neg (by omega), Lib.decDigits, dif_pos (by omega)]

/-! ### The text -/
/-- What is still to be written when the age is k. -/
def R (sep : List UInt8) (Z : Nat → Int) : Nat → List UInt8
  | 0 => []
  | k + 1 => Lib.itoa (Z k) ++ ((if 0 < k then sep else []) ++ R sep Z k)
/-- The separator. -/
def sepOf (n : Nat) : List UInt8 := if 9 < n then [44] else []
/-- The policy's text. -/
def text (Z : Nat → Int) (n : Nat) : List UInt8 := R (sepOf n) Z n

theorem R_length (sep : List UInt8) (hs : sep.length ≤ 1) (Z : Nat → Int) (hZ : ∀ i, -9223372036854775808 ≤ Z i ∧ Z i ≤ 9223372036854775807) : ∀ k, (R sep Z k).length ≤ 22 * k
  | 0 => Nat.le_refl _
  | k + 1 => by
    have h1 := R_length sep hs Z hZ k
    have h2 := Lib.itoa_length_le (Z k) (hZ k).1 (hZ k).2
    simp only [R, List.length_append]
    split
    · omega
    · simp only [List.length_nil]; omega
theorem sep_length (n : Nat) : (sepOf n).length ≤ 1 := by unfold sepOf; split <;> simp

/-- Up to the first comma. -/
theorem cut_comma : ∀ (a b r s : List UInt8), (44 : UInt8) ∉ a → (44 : UInt8) ∉ b → a ++ 44 :: r = b ++ 44 :: s → a = b ∧ r = s
  | [], [], r, s, _, _, h => ⟨rfl, (List.cons.inj h).2⟩
  | [], y :: b, r, s, _, hb, h => absurd (by rw [List.nil_append, List.cons_append] at h; rw [(List.cons.inj h).1]; exact List.mem_cons_self) hb
  | x :: a, [], r, s, ha, _, h => absurd (by rw [List.nil_append, List.cons_append] at h; rw [← (List.cons.inj h).1]; exact List.mem_cons_self) ha
  | x :: a, y :: b, r, s, ha, hb, h => by
    rw [List.cons_append, List.cons_append] at h
    obtain ⟨h1, h2⟩ := List.cons.inj h
    obtain ⟨h3, h4⟩ := cut_comma a b r s (fun m => ha (List.mem_cons_of_mem _ m)) (fun m => hb (List.mem_cons_of_mem _ m)) h2
    exact ⟨by rw [h1, h3], h4⟩

theorem R_comma {Z : Nat → Int} (k : Nat) : (44 : UInt8) ∈ R [44] Z (k + 2) := by
  show (44 : UInt8) ∈ Lib.itoa (Z (k + 1)) ++ ((if 0 < k + 1 then [44] else []) ++ R [44] Z (k + 1))
  rw [if_pos (by omega)]
  exact List.mem_append_right _ (List.mem_append_left _ List.mem_cons_self)
theorem R_one (sep : List UInt8) (Z : Nat → Int) : R sep Z 1 = Lib.itoa (Z 0) := by
  show Lib.itoa (Z 0) ++ ((if 0 < 0 then sep else []) ++ []) = _
  simp
theorem R_two (Z : Nat → Int) (k : Nat) : R [44] Z (k + 2) = Lib.itoa (Z (k + 1)) ++ 44 :: R [44] Z (k + 1) := by
  show Lib.itoa (Z (k + 1)) ++ ((if 0 < k + 1 then [44] else []) ++ R [44] Z (k + 1)) = _
  rw [if_pos (by omega)]
  rfl

/-- Comma forms. -/
theorem comma_inj (Z Y : Nat → Int) : ∀ n m, R [44] Z (n + 1) = R [44] Y (m + 1) → n = m ∧ ∀ i, i < n + 1 → Z i = Y i
  | 0, 0, h => ⟨rfl, fun i hi => by
      rw [R_one, R_one] at h
      obtain rfl : i = 0 := by omega
      exact itoa_inj h⟩
  | 0, m + 1, h => absurd (by rw [R_one] at h; rw [h]; exact R_comma m) (itoa_comma (Z 0))
  | n + 1, 0, h => absurd (by rw [R_one] at h; rw [← h]; exact R_comma n) (itoa_comma (Y 0))
  | n + 1, m + 1, h => by
    rw [R_two, R_two] at h
    obtain ⟨h1, h2⟩ := cut_comma _ _ _ _ (itoa_comma _) (itoa_comma _) h
    obtain ⟨rfl, h3⟩ := comma_inj Z Y n m h2
    refine ⟨rfl, fun i hi => ?_⟩
    by_cases e : i = n + 1
    · subst e; exact itoa_inj h1
    · exact h3 i (by omega)

/-- Digit forms. -/
theorem digit_step {Z : Nat → Int} {k : Nat} (h : 0 ≤ Z k ∧ Z k ≤ 9) : R [] Z (k + 1) = UInt8.ofNat (48 + (Z k).toNat) :: R [] Z k := by
  show Lib.itoa (Z k) ++ ((if 0 < k then [] else []) ++ R [] Z k) = _
  rw [itoa_digit h.1 h.2]
  simp
theorem digit_len {Z : Nat → Int} : ∀ k, (∀ i, i < k → 0 ≤ Z i ∧ Z i ≤ 9) → (R [] Z k).length = k
  | 0, _ => rfl
  | k + 1, h => by rw [digit_step (h k (by omega)), List.length_cons, digit_len k (fun i hi => h i (by omega))]
theorem digit_comma {Z : Nat → Int} : ∀ k, (∀ i, i < k → 0 ≤ Z i ∧ Z i ≤ 9) → (44 : UInt8) ∉ R [] Z k
  | 0, _ => by simp [R]
  | k + 1, h => by
    have hk := h k (by omega)
    rw [digit_step hk, List.mem_cons]
    rintro (e | e)
    · have := congrArg UInt8.toNat e
      simp only [UInt8.toNat_ofNat'] at this
      revert this
      have : (44 : UInt8).toNat = 44 := rfl
      omega
    · exact digit_comma k (fun i hi => h i (by omega)) e
theorem digit_inj {Z Y : Nat → Int} : ∀ k, (∀ i, i < k → 0 ≤ Z i ∧ Z i ≤ 9) → (∀ i, i < k → 0 ≤ Y i ∧ Y i ≤ 9) → R [] Z k = R [] Y k → ∀ i, i < k → Z i = Y i
  | 0, _, _, _, i, hi => absurd hi (by omega)
  | k + 1, hZ, hY, h, i, hi => by
    have h1 := hZ k (by omega)
    have h2 := hY k (by omega)
    rw [digit_step h1, digit_step h2] at h
    obtain ⟨h3, h4⟩ := List.cons.inj h
    by_cases e : i = k
    · subst e
      have := congrArg UInt8.toNat h3
      simp only [UInt8.toNat_ofNat'] at this
      omega
    · exact digit_inj k (fun j hj => hZ j (by omega)) (fun j hj => hY j (by omega)) h4 i (by omega)

/-- The text hangs on the first n numbers alone. -/
theorem R_congr {sep : List UInt8} {Z Y : Nat → Int} : ∀ k, (∀ i, i < k → Z i = Y i) → R sep Z k = R sep Y k
  | 0, _ => rfl
  | k + 1, h => by simp only [R, h k (by omega), R_congr k (fun i hi => h i (by omega))]

/-- More than nine, or single digits. -/
def Form (Z : Nat → Int) (n : Nat) : Prop := 9 < n ∨ ∀ i, i < n → 0 ≤ Z i ∧ Z i ≤ 9
def Same (Z : Nat → Int) (n : Nat) (Y : Nat → Int) (m : Nat) : Prop := n = m ∧ ∀ i, i < n → Z i = Y i

/-- ████ AMONG SUCH POLICIES TWO TEXTS ARE EQUAL EXACTLY WHEN THE PRIORITIES ARE ████ -/
theorem text_iff {Z Y : Nat → Int} {n m : Nat} (hZ : Form Z n) (hY : Form Y m) : text Z n = text Y m ↔ Same Z n Y m := by
  constructor
  · intro h
    unfold text at h
    by_cases hn : 9 < n
    · have sn : sepOf n = [44] := if_pos hn
      rw [sn] at h
      by_cases hm : 9 < m
      · have sm : sepOf m = [44] := if_pos hm
        rw [sm] at h
        obtain ⟨n, rfl⟩ : ∃ k, n = k + 1 := ⟨n - 1, by omega⟩
        obtain ⟨m, rfl⟩ : ∃ k, m = k + 1 := ⟨m - 1, by omega⟩
        obtain ⟨rfl, h2⟩ := comma_inj Z Y n m h
        exact ⟨rfl, h2⟩
      · have sm : sepOf m = [] := if_neg hm
        rw [sm] at h
        obtain ⟨n, rfl⟩ : ∃ k, n = k + 2 := ⟨n - 2, by omega⟩
        exact absurd (by rw [← h]; exact R_comma n) (digit_comma m (hY.resolve_left hm))
    · have sn : sepOf n = [] := if_neg hn
      rw [sn] at h
      have dZ := hZ.resolve_left hn
      by_cases hm : 9 < m
      · have sm : sepOf m = [44] := if_pos hm
        rw [sm] at h
        obtain ⟨m, rfl⟩ : ∃ k, m = k + 2 := ⟨m - 2, by omega⟩
        exact absurd (by rw [h]; exact R_comma m) (digit_comma n dZ)
      · have sm : sepOf m = [] := if_neg hm
        rw [sm] at h
        have dY := hY.resolve_left hm
        have hl := congrArg List.length h
        rw [digit_len n dZ, digit_len m dY] at hl
        subst hl
        exact ⟨rfl, digit_inj n dZ dY h⟩
  · rintro ⟨rfl, h⟩
    exact R_congr n h
end Go.Proofs.Qxb6605435aDoor
