import Derived.Test.Qxb6608916aDoorRows
import Derived.Test.Qxb6608916aDoorNum
import Derived.WalkKit
namespace Go.Proofs.Qxb6608916aDoor
open Go.RowKit
set_option linter.unusedVariables false

/-- 'zzIsRoundedHalfUp' where the whole part is the quotient. -/
theorem round_q (n per w f : Int) (wd : World) (hn : 0 ≤ n) (hn2 : n ≤ 9223372036854775807) (hp : 0 < per) (hp2 : per ≤ 9223372036854775)
    (hw : (w == n / per) = true) (r0 : 0 ≤ n % per) (r1 : n % per < per) (f0 : 0 ≤ f * per) (f1 : f * per ≤ 9223372036854775000)
    (d0 : -per < 2 * (f * per - 1000 * (n % per))) (d1 : 2 * (f * per - 1000 * (n % per)) ≤ per) :
    Calls Tryd.prog 13 #[.int .i64 n, .int .i64 per, .int .i64 w, .int .i64 f] wd fun e w' => e = .returned (.bool true) ∧ wd = w' := by
  go_enter Tryd.func13, Tryd.ntmps13
  go_wp2
  go_ret
  exact ⟨rfl, rfl⟩

/-- 'zzIsRoundedHalfUp' where the thousandths carry. -/
theorem round_q1 (n per w : Int) (wd : World) (hn : 0 ≤ n) (hn2 : n ≤ 9223372036854775807) (hp : 0 < per) (hp2 : per ≤ 9223372036854775)
    (hq0 : 0 ≤ n / per) (hq : n / per < 9223372036854775807) (hw0 : (w == n / per) = false) (hw : (w == n / per + 1) = true) (r0 : 0 ≤ n % per) (r1 : n % per < per)
    (d0 : -per < 2 * (1000 * per - 1000 * (n % per))) (d1 : 2 * (1000 * per - 1000 * (n % per)) ≤ per) :
    Calls Tryd.prog 13 #[.int .i64 n, .int .i64 per, .int .i64 w, .int .i64 0] wd fun e w' => e = .returned (.bool true) ∧ wd = w' := by
  go_enter Tryd.func13, Tryd.ntmps13
  go_wp2
  go_ret
  exact ⟨rfl, rfl⟩

theorem round_ok (n per : Int) (wd : World) (hn : 0 ≤ n) (hn2 : n ≤ 9223372036854775807) (hp : 0 < per) (hp2 : per ≤ 9223372036854775) :
    Calls Tryd.prog 13 #[.int .i64 n, .int .i64 per, .int .i64 (gW n per), .int .i64 (gF n per)] wd fun e w' => e = .returned (.bool true) ∧ wd = w' := by
  obtain ⟨r0, r1, k0, k1, d0, d1⟩ := gk_facts n per hp
  have q0 : 0 ≤ n / per := Int.ediv_nonneg hn (by omega)
  have wb := gW_bd n per hn hn2 hp
  by_cases h : gk n per = 1000
  · have eW : gW n per = n / per + 1 := by unfold gW; rw [if_pos h]
    have eF : gF n per = 0 := by unfold gF; rw [if_pos h]
    rw [eW] at wb
    rw [eW, eF]
    rw [h] at d0 d1
    exact round_q1 n per _ wd hn hn2 hp hp2 q0 (by omega) (by simp; omega) (by simp) r0 r1 d0 d1
  · have eW : gW n per = n / per := by unfold gW; rw [if_neg h]
    have eF : gF n per = gk n per := by unfold gF; rw [if_neg h]
    rw [eW, eF]
    have m1 : gk n per * per ≤ 1000 * per := Int.mul_le_mul_of_nonneg_right k1 (by omega)
    have m0 : 0 ≤ gk n per * per := Int.mul_nonneg k0 (by omega)
    exact round_q n per _ _ wd hn hn2 hp hp2 (by simp) r0 r1 m0 (by omega) d0 d1
end Go.Proofs.Qxb6608916aDoor
