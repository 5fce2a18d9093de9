/-
  SEAT b6605482a. THE PLAIN LAWS: sixteen bytes as two words; and the equality of two arrays.
-/
import Derived.Test.Qxb6605482aInc
namespace Go.Proofs.Qxb6605482a
open Go.RowKit

/-! ### '==' of one array with itself -/
theorem equalIn_arr (c : Nat → Int) (w : World) : (Op.equalIn 10000 22 (.agg (arr c)) (.agg (arr c))).run Try.prog w = .ok true w := by
  have hsz : ∀ w, (sizeOf 5).run Try.prog w = .ok 1 w := fun w => by kernel_rfl
  rw [show (10000 : Nat) = 9999 + 1 from rfl, Op.equalIn]
  simp only [Sem.run_bind, run_underlying Try.underlying22, Result.andThen_ok, hsz, Std.Legacy.Range.forIn_eq_forIn_range', Std.Legacy.Range.size, Nat.sub_zero, Nat.add_sub_cancel, Nat.div_one]
  have hl : ∀ i ∈ List.range' 0 16 1, i < 16 := fun i hi => by simpa using (List.mem_range'_1.1 hi).2
  generalize List.range' 0 16 1 = l at hl ⊢
  induction l with
  | nil => simp
  | cons i l ih =>
    have hi : i < 16 := hl i (by simp)
    have px : (part 5 (arr c) (i * 1)).run Try.prog w = .ok (.int .u8 (c i)) w := by
      simp [part, isAgg, run_underlying Try.underlying5, arr_at c hi]
    have pe : (Op.equalIn 9999 5 (.int .u8 (c i)) (.int .u8 (c i))).run Try.prog w = .ok true w := by
      rw [show (9999 : Nat) = 9998 + 1 from rfl, run_equalIn_int w 9998 5 .u8 .u8 _ _ Try.underlying5]
      simp
    simp only [List.forIn_cons, Sem.run_bind, px, pe, Result.andThen_ok, Bool.not_true, Bool.false_eq_true, if_false, Sem.run_pure]
    exact ih fun j hj => hl j (by simp [hj])
theorem eql_arr (c : Nat → Int) (w : World) : (binOp .eql 22 (.agg (arr c)) (.agg (arr c))).run Try.prog w = .ok (.bool true) w := by
  rw [run_eql_struct, equalIn_arr]
  rfl

/-! ### Words -/
theorem seg_all (b c : Nat → Int) (s : Nat) : ∀ k, (∀ j, s ≤ j → j < s + k → b j = 255 ∧ c j = 0) → H b s k = 256 ^ k - 1 ∧ H c s k = 0
  | 0, _ => by simp [H]
  | k + 1, h => by
    obtain ⟨h1, h2⟩ := seg_all b c s k (fun j hj hk => h j hj (by omega))
    obtain ⟨h3, h4⟩ := h (s + k) (by omega) (by omega)
    have h5 : (256 : Int) ^ (k + 1) = 256 ^ k * 256 := Int.pow_succ _ _
    simp only [H, h3, h4, h1, h2]
    omega
theorem seg_same (b c : Nat → Int) (s : Nat) : ∀ k, (∀ j, s ≤ j → j < s + k → c j = b j) → H c s k = H b s k
  | 0, _ => rfl
  | k + 1, h => by
    simp only [H, seg_same b c s k (fun j hj hk => h j hj (by omega)), h (s + k) (by omega) (by omega)]
theorem seg_mid (b c : Nat → Int) (s m : Nat) (hm : s < m) (h1 : c (m - 1) = b (m - 1) + 1) (h2 : ∀ j, j + 1 < m → c j = b j) :
    ∀ k, m ≤ s + k → (∀ j, m ≤ j → j < s + k → b j = 255 ∧ c j = 0) → H c s k = H b s k + 1
  | 0, hk, _ => absurd hk (by omega)
  | k + 1, hk, h => by
    by_cases e : m = s + (k + 1)
    · have e1 := seg_same b c s k (fun j hj hj2 => h2 j (by omega))
      have e2 : c (s + k) = b (s + k) + 1 := by
        have := h1
        rwa [show m - 1 = s + k by omega] at this
      simp only [H, e1, e2]
      omega
    · have ih := seg_mid b c s m hm h1 h2 k (by omega) (fun j hj hj2 => h j hj (by omega))
      obtain ⟨e3, e4⟩ := h (s + k) (by omega) (by omega)
      simp only [H, ih, e3, e4]
      omega

theorem pow8 : (256 : Int) ^ 8 = 18446744073709551616 := by decide

/-- A word of eight bytes. -/
theorem word (b : Nat → Int) (hb : ∀ i, 0 ≤ b i ∧ b i ≤ 255) (s : Nat) : 0 ≤ H b s 8 ∧ H b s 8 ≤ 18446744073709551615 := by
  have h := H_bound b hb s 8
  have := pow8
  omega

/-- What one increment does to the two words: n steps on from (hi, lo). -/
structure Adds (b c : Nat → Int) (n : Int) : Prop where
  lo : H c 8 8 = (H b 8 8 + n) % 18446744073709551616
  hi : H c 0 8 = (H b 0 8 + (H b 8 8 + n) / 18446744073709551616) % 18446744073709551616

theorem inc_adds {b c : Nat → Int} (hb : ∀ i, 0 ≤ b i ∧ b i ≤ 255) (h : Inc b c) : Adds b c 1 := by
  obtain ⟨⟨m, hm, h255, hmid, hsame⟩, hc⟩ := h
  have w1 := word b hb 0
  have w2 := word b hb 8
  have w3 := word c hc 0
  have w4 := word c hc 8
  have p8 := pow8
  by_cases h8 : m ≤ 8
  · obtain ⟨e1, e2⟩ := seg_all b c 8 8 (fun j hj hk => h255 j (by omega) (by omega))
    by_cases h0 : m = 0
    · obtain ⟨e3, e4⟩ := seg_all b c 0 8 (fun j hj hk => h255 j (by omega) (by omega))
      constructor <;> omega
    · have e3 := seg_mid b c 0 m (by omega) (hmid (by omega)).2 hsame 8 (by omega) (fun j hj hk => h255 j hj (by omega))
      constructor <;> omega
  · have e3 := seg_mid b c 8 m (by omega) (hmid (by omega)).2 hsame 8 (by omega) (fun j hj hk => h255 j hj (by omega))
    have e4 := seg_same b c 0 8 (fun j hj hk => hsame j (by omega))
    constructor <;> omega

theorem adds_zero {b : Nat → Int} (hb : ∀ i, 0 ≤ b i ∧ b i ≤ 255) : Adds b b 0 := by
  have w1 := word b hb 0
  have w2 := word b hb 8
  constructor <;> omega
theorem adds_step {b c d : Nat → Int} {n : Int} (h : Adds b c n) (h' : Adds c d 1) : Adds b d (n + 1) := by
  obtain ⟨h1, h2⟩ := h
  obtain ⟨h3, h4⟩ := h'
  constructor <;> omega

/-! ### Bytes of words -/
theorem seg_inj (b c : Nat → Int) (hb : ∀ i, 0 ≤ b i ∧ b i ≤ 255) (hc : ∀ i, 0 ≤ c i ∧ c i ≤ 255) (s : Nat) : ∀ k, H b s k = H c s k → ∀ j, j < k → b (s + j) = c (s + j)
  | 0, _, j, hj => absurd hj (by omega)
  | k + 1, h, j, hj => by
    have h1 := hb (s + k)
    have h2 := hc (s + k)
    simp only [H] at h
    by_cases e : j = k
    · subst e
      omega
    · exact seg_inj b c hb hc s k (by omega) j (by omega)
theorem arr_congr {b c : Nat → Int} (h : ∀ j, j < 16 → b j = c j) : arr b = arr c := by
  unfold arr
  simp only [h 0 (by omega), h 1 (by omega), h 2 (by omega), h 3 (by omega), h 4 (by omega), h 5 (by omega), h 6 (by omega), h 7 (by omega), h 8 (by omega), h 9 (by omega), h 10 (by omega), h 11 (by omega), h 12 (by omega), h 13 (by omega), h 14 (by omega), h 15 (by omega)]
theorem words_inj {b c : Nat → Int} (hb : ∀ i, 0 ≤ b i ∧ b i ≤ 255) (hc : ∀ i, 0 ≤ c i ∧ c i ≤ 255) (h1 : H b 0 8 = H c 0 8) (h2 : H b 8 8 = H c 8 8) : ∀ j, j < 16 → b j = c j := fun j hj => by
  by_cases e : j < 8
  · have := seg_inj b c hb hc 0 8 h1 j e
    rwa [Nat.zero_add] at this
  · have := seg_inj b c hb hc 8 8 h2 (j - 8) (by omega)
    rwa [show 8 + (j - 8) = j by omega] at this

theorem D_byte (h l : Int) (h0 : 0 ≤ h) (h1 : h ≤ 18446744073709551615) (l0 : 0 ≤ l) (l1 : l ≤ 18446744073709551615) (i : Nat) : 0 ≤ D h l i ∧ D h l i ≤ 255 := by
  unfold D
  split <;> omega
theorem D_hi (h l : Int) : H (D h l) 0 8 = h := by
  simp only [H, D, Nat.zero_add]
  omega
theorem D_lo (h l : Int) : H (D h l) 8 8 = l := by
  simp only [H, D]
  omega
theorem arr_D {c : Nat → Int} (hc : ∀ i, 0 ≤ c i ∧ c i ≤ 255) : arr (D (H c 0 8) (H c 8 8)) = arr c := by
  have w1 := word c hc 0
  have w2 := word c hc 8
  exact arr_congr (words_inj (D_byte _ _ w1.1 w1.2 w2.1 w2.2) hc (D_hi _ _) (D_lo _ _))
end Go.Proofs.Qxb6605482a
