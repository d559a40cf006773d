import Derived.Test.Qxb6608916aDoorValue
namespace Go.Proofs.Qxb6608916aDoor
open Go.RowKit Go.Shelf
set_option linter.unusedVariables false

theorem mul_fits (p r C : Int) (hp : 0 < p) (hr : 0 ≤ r) (hC : 0 ≤ C) (h : r ≤ C / p) : 0 ≤ p * r ∧ p * r ≤ C := by
  refine ⟨Int.mul_nonneg (by omega) hr, ?_⟩
  have h1 : p * r ≤ p * (C / p) := Int.mul_le_mul_of_nonneg_left h (by omega)
  have h2 : p * (C / p) ≤ C := Int.mul_ediv_self_le (by omega)
  omega
theorem mul_fits_neg (p r C : Int) (hp : p < 0) (hr : 0 < r) (hC : 0 ≤ C) (h : -(C / r) ≤ p) : -C ≤ p * r ∧ p * r ≤ 0 := by
  have h1 : (-p) * r ≤ C / r * r := Int.mul_le_mul_of_nonneg_right (by omega) (by omega)
  have h2 : C / r * r ≤ C := Int.ediv_mul_le _ (by omega)
  have h3 : 0 ≤ (-p) * r := Int.mul_nonneg (by omega) (by omega)
  rw [Int.neg_mul] at h1 h3
  omega

set_option maxHeartbeats 2000000 in
theorem value_walk (p per r : Int) (w0 : (Lit.int .i64 p).wf = true) (w1 : (Lit.int .i64 per).wf = true) (w2 : (Lit.int .i64 r).wf = true) (a : Option Addr) (len cap : Nat) (zs : List Int) (w : World)
    (hrow : Hid (IsRow .u8 w a len cap zs)) (hT0 : Hid (Lib.TabIs Tryd.prog w tabName .u64 Lib.pow10Tab)) :
    Calls Tryd.prog 4 #[.int .i64 p, .int .i64 per, .int .i64 r, .slice a len cap] w fun e w' => e = .returned (.bool true) ∧ Below w.heap.size w w' := by
  obtain ⟨p1, p2⟩ := bounds_i64 w0
  obtain ⟨q1, q2⟩ := bounds_i64 w1
  obtain ⟨r1, r2⟩ := bounds_i64 w2
  clear w0 w1 w2
  obtain ⟨hzs, hlm, hA⟩ := row_at hrow.out
  have HA := Lib.hid hA
  clear hA
  by_cases hlen : 1048576 < len
  · go_enter Tryd.func4, Tryd.ntmps4
    go_wp2_with (go_at_call 11; refine (vbytes_no _ _ _ _ _ _ _ hlen hlm).mono ?_; rintro e w' ⟨rfl, rfl⟩)
    go_ret
    exact ⟨rfl, Below.refl _ _⟩
  have hlen' : len ≤ 1048576 := by omega
  clear hlen
  by_cases c1 : per < 0
  · go_enter Tryd.func4, Tryd.ntmps4
    go_wp2_with (go_at_call 11; refine (vbytes_ok _ _ _ _ _ _ _ hlen').mono ?_; rintro e w' ⟨rfl, rfl⟩)
    go_ret
    exact ⟨rfl, Below.refl _ _⟩
  by_cases c2 : 9223372036854775 < per
  · go_enter Tryd.func4, Tryd.ntmps4
    go_wp2_with (go_at_call 11; refine (vbytes_ok _ _ _ _ _ _ _ hlen').mono ?_; rintro e w' ⟨rfl, rfl⟩)
    go_ret
    exact ⟨rfl, Below.refl _ _⟩
  by_cases c3 : 0 < per
  · by_cases c4 : p < 0
    · go_enter Tryd.func4, Tryd.ntmps4
      go_wp2_with (go_at_call 11; refine (vbytes_ok _ _ _ _ _ _ _ hlen').mono ?_; rintro e w' ⟨rfl, rfl⟩)
      go_ret
      exact ⟨rfl, Below.refl _ _⟩
    by_cases c5 : r < 1
    · go_enter Tryd.func4, Tryd.ntmps4
      go_wp2_with (go_at_call 11; refine (vbytes_ok _ _ _ _ _ _ _ hlen').mono ?_; rintro e w' ⟨rfl, rfl⟩)
      go_ret
      exact ⟨rfl, Below.refl _ _⟩
    have hq0 : 0 ≤ 9223372036854775 / per := Int.ediv_nonneg (by omega) (by omega)
    by_cases c6 : 9223372036854775 / per < r
    · go_enter Tryd.func4, Tryd.ntmps4
      go_wp2_with (go_at_call 11; refine (vbytes_ok _ _ _ _ _ _ _ hlen').mono ?_; rintro e w' ⟨rfl, rfl⟩)
      go_ret
      exact ⟨rfl, Below.refl _ _⟩
    obtain ⟨n0, n1⟩ := mul_fits per r 9223372036854775 c3 (by omega) (by omega) (by omega)
    have npos : 0 < per * r := Int.mul_pos c3 (by omega)
    by_cases c7 : 0 < p
    · have hg0 : 0 ≤ 9223372036854775807 / p := Int.ediv_nonneg (by omega) (by omega)
      by_cases c8 : 9223372036854775807 / p < r
      · go_enter Tryd.func4, Tryd.ntmps4
        go_wp2_with (go_at_call 11; refine (vbytes_ok _ _ _ _ _ _ _ hlen').mono ?_; rintro e w' ⟨rfl, rfl⟩)
        go_ret
        exact ⟨rfl, Below.refl _ _⟩
      obtain ⟨m0, m1⟩ := mul_fits p r 9223372036854775807 c7 (by omega) (by omega) (by omega)
      exact value_pp p r per c3 (by omega) hq0 (by omega) m0 m1 n0 n1 c7 hg0 (by omega) a len cap zs w hlen' (by omega) r2 p2 hrow hzs HA.out hT0 (Or.inr ⟨by omega, p2, c3, by omega⟩) (Or.inr ⟨m0, m1, npos, n1⟩) (gall_scale p per r (by omega) (by omega))
    · obtain rfl : p = 0 := by omega
      exact value_p0 0 r per c3 (by omega) hq0 (by omega) (by simp) (by simp) n0 n1 (by omega) (by omega) a len cap zs w hlen' (by omega) r2 p2 hrow hzs HA.out hT0 (Or.inr ⟨by omega, p2, c3, by omega⟩) (Or.inr ⟨by simp, by simp, npos, n1⟩) (gall_scale 0 per r (by omega) (by omega))
  · obtain rfl : per = 0 := by omega
    by_cases c5 : r < 1
    · go_enter Tryd.func4, Tryd.ntmps4
      go_wp2_with (go_at_call 11; refine (vbytes_ok _ _ _ _ _ _ _ hlen').mono ?_; rintro e w' ⟨rfl, rfl⟩)
      go_ret
      exact ⟨rfl, Below.refl _ _⟩
    have hsame : gall (p * r) 0 = gall p 0 := by have := gall_scale p 0 r (by omega) (by omega); rwa [Int.zero_mul] at this
    by_cases c7 : 0 < p
    · have hg0 : 0 ≤ 9223372036854775807 / p := Int.ediv_nonneg (by omega) (by omega)
      by_cases c8 : 9223372036854775807 / p < r
      · clear hsame
        go_enter Tryd.func4, Tryd.ntmps4
        go_wp2_with (go_at_call 11; refine (vbytes_ok _ _ _ _ _ _ _ hlen').mono ?_; rintro e w' ⟨rfl, rfl⟩)
        go_ret
        exact ⟨rfl, Below.refl _ _⟩
      obtain ⟨m0, m1⟩ := mul_fits p r 9223372036854775807 c7 (by omega) (by omega) (by omega)
      exact value_zp p r p1 (by omega) m1 c7 hg0 (by omega) a len cap zs w hlen' (by omega) r2 p2 hrow hzs HA.out hT0 (Or.inl rfl) (Or.inl rfl) hsame
    by_cases c9 : p < 0
    · have hg0 : 0 ≤ 9223372036854775807 / r := Int.ediv_nonneg (by omega) (by omega)
      have hg3 : 9223372036854775807 / r ≤ 9223372036854775807 := Int.ediv_le_self _ (by omega)
      by_cases c8 : p < -(9223372036854775807 / r)
      · clear hsame
        go_enter Tryd.func4, Tryd.ntmps4
        go_wp2_with (go_at_call 11; refine (vbytes_ok _ _ _ _ _ _ _ hlen').mono ?_; rintro e w' ⟨rfl, rfl⟩)
        go_ret
        exact ⟨rfl, Below.refl _ _⟩
      obtain ⟨m0, m1⟩ := mul_fits_neg p r 9223372036854775807 c9 (by omega) (by omega) (by omega)
      exact value_zn p r p1 (by omega) (by omega) c9 hg0 hg3 (by omega) a len cap zs w hlen' (by omega) r2 p2 hrow hzs HA.out hT0 (Or.inl rfl) (Or.inl rfl) hsame
    · obtain rfl : p = 0 := by omega
      exact value_z0 0 r p1 (by simp) (by simp) (by omega) (by omega) a len cap zs w hlen' (by omega) r2 p2 hrow hzs HA.out hT0 (Or.inl rfl) (Or.inl rfl) hsame
end Go.Proofs.Qxb6608916aDoor
