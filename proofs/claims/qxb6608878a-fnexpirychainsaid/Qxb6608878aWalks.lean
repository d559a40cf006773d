import Derived.Test.Qxb6608878aRows
import Derived.WalkKit
import Derived.ProofKit
namespace Go.Proofs.Qxb6608878a
open Go.ChangeShapes Go.WideShapes Go.ChangeAt Go.RowKit
set_option linter.unusedVariables false

/-- 'ZZexpiry' where the sum passes the top: never. -/
theorem exp_top (s d : Int) (w : World) (hd : 0 < d) (hd2 : d ≤ 9223372036854775807) (hs : 9223372036854775807 - d < s) :
    Calls Try.prog 5 #[.int .i64 s, .int .i64 d] w fun e w' => e = .returned (.int .i64 9223372036854775807) ∧ w = w' := by
  go_enter Try.func5, Try.ntmps5
  go_wp2
  go_ret
  exact ⟨rfl, rfl⟩

/-- 'ZZexpiry' where it does not, the duration above 0: the true sum. -/
theorem exp_sum (s d : Int) (w : World) (hd : 0 < d) (hd2 : d ≤ 9223372036854775807) (hl : -9223372036854775808 ≤ s) (hs : s ≤ 9223372036854775807 - d) :
    Calls Try.prog 5 #[.int .i64 s, .int .i64 d] w fun e w' => e = .returned (.int .i64 (s + d)) ∧ w = w' := by
  go_enter Try.func5, Try.ntmps5
  go_wp2
  go_ret
  exact ⟨rfl, rfl⟩

/-- 'ZZexpiry' at a duration of 0 or below: the sum, as it wraps. -/
theorem exp_neg (s d : Int) (w : World) (hd : d ≤ 0) :
    Calls Try.prog 5 #[.int .i64 s, .int .i64 d] w fun e w' => e = .returned (.int .i64 (wrap64 (s + d))) ∧ w = w' := by
  go_enter Try.func5, Try.ntmps5
  go_wp2
  go_ret
  exact ⟨rfl, rfl⟩

/-- What 'expiry' computes. -/
def ex (s d : Int) : Int := if 0 < d ∧ 9223372036854775807 - d < s then 9223372036854775807 else wrap64 (s + d)

theorem exp_any (s d : Int) (w : World) (hd2 : d ≤ 9223372036854775807) (hl : -9223372036854775808 ≤ s) :
    Calls Try.prog 5 #[.int .i64 s, .int .i64 d] w fun e w' => e = .returned (.int .i64 (ex s d)) ∧ w = w' := by
  by_cases h1 : 0 < d
  · by_cases h2 : 9223372036854775807 - d < s
    · have e : ex s d = 9223372036854775807 := by unfold ex; rw [if_pos ⟨h1, h2⟩]
      rw [e]; exact exp_top s d w h1 hd2 h2
    · have e : ex s d = s + d := by unfold ex; rw [if_neg (by omega)]; unfold wrap64; omega
      rw [e]; exact exp_sum s d w h1 hd2 hl (by omega)
  · have e : ex s d = wrap64 (s + d) := by unfold ex; rw [if_neg (by omega)]
    rw [e]; exact exp_neg s d w (by omega)

/-! ### THE PLAIN LAWS: no Go in sight -/
theorem ex_bd (s d : Int) : -9223372036854775808 ≤ ex s d ∧ ex s d ≤ 9223372036854775807 := by
  unfold ex wrap64; split <;> omega
theorem ex_chain (s a b : Int) (hs : -9223372036854775808 ≤ s) (hs2 : s ≤ 9223372036854775807) (ha : 0 ≤ a) (hb : 0 ≤ b) (hab : a ≤ 9223372036854775807 - b) :
    ex (ex s a) b = ex s (a + b) := by
  unfold ex wrap64
  by_cases h1 : 0 < a ∧ 9223372036854775807 - a < s
  · rw [if_pos h1]; split <;> split <;> omega
  · rw [if_neg h1]; split <;> split <;> omega
theorem ex_top (s t : Int) (hs : -9223372036854775808 ≤ s) (hs2 : s ≤ 9223372036854775807) (ht : 0 < t) (ht2 : t ≤ 9223372036854775807) (h : wrap64 (s + t) < s) :
    ex s t = 9223372036854775807 := by
  unfold wrap64 at h; unfold ex; rw [if_pos (by omega)]
theorem ex_in (s t : Int) (hs : -9223372036854775808 ≤ s) (hs2 : s ≤ 9223372036854775807) (ht : 0 ≤ t) (ht2 : t ≤ 9223372036854775807) (h : ¬ (0 < t ∧ wrap64 (s + t) < s)) :
    ex s t = wrap64 (s + t) := by
  unfold wrap64 at h; unfold ex; rw [if_neg (by omega)]
end Go.Proofs.Qxb6608878a
