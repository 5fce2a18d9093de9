/-
  SEAT b6605482a. zzStore: the sixteen bytes of two words.
-/
import Derived.Test.Qxb6605482aUlid
namespace Go.Proofs.Qxb6605482a
open Go.RowKit

/-- Byte j of the sixteen, as the text makes it. -/
def D (h l : Int) : Nat → Int
  | 0 => h / 256 / 256 / 256 / 256 / 256 / 256 / 256
  | 1 => h / 256 / 256 / 256 / 256 / 256 / 256 % 256
  | 2 => h / 256 / 256 / 256 / 256 / 256 % 256
  | 3 => h / 256 / 256 / 256 / 256 % 256
  | 4 => h / 256 / 256 / 256 % 256
  | 5 => h / 256 / 256 % 256
  | 6 => h / 256 % 256
  | 7 => h % 256
  | 8 => l / 256 / 256 / 256 / 256 / 256 / 256 / 256
  | 9 => l / 256 / 256 / 256 / 256 / 256 / 256 % 256
  | 10 => l / 256 / 256 / 256 / 256 / 256 % 256
  | 11 => l / 256 / 256 / 256 / 256 % 256
  | 12 => l / 256 / 256 / 256 % 256
  | 13 => l / 256 / 256 % 256
  | 14 => l / 256 % 256
  | 15 => l % 256
  | _ => 0

set_option maxHeartbeats 1000000 in
set_option maxRecDepth 100000 in
theorem store8 (h l : Int) (w : World) (h0 : 0 ≤ h) (h1 : h ≤ 18446744073709551615) (l0 : 0 ≤ l) (l1 : l ≤ 18446744073709551615) :
    Calls Try.prog 8 #[.int .u64 h, .int .u64 l] w fun e w' => e = .returned (.agg (arr (D h l))) ∧ w' = (w.alloc (.cells (arr (D h l)) 22)).alloc (.cells (arr (D h l)) 22) := by
  go_enter Try.func8, Try.ntmps8
  go_wp2_with fail
  refine wp_loop_rounds 9 ?_
  iterate 9 (rw [rounds_succ]; go_wp2_with fail)
  refine wp_loop_rounds 9 ?_
  iterate 9 (rw [rounds_succ]; go_wp2_with fail)
  exact bodyPost_ret (v := .agg (arr (D h l))) (by simp [results, Try.results8, go_sem, arr, D]) rfl ⟨rfl, rfl⟩
end Go.Proofs.Qxb6605482a
