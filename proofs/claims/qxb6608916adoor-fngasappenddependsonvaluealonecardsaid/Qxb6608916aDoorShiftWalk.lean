import Derived.Test.Qxb6608916aDoorShift
import Derived.ProofKit
import Derived.OpenShut
namespace Go.Proofs.Qxb6608916aDoor
open Go.RowKit Go.Shelf
set_option linter.unusedVariables false

/-- What the walks ask of the slice that came in, out of its reading. -/
theorem row_at {w : World} {a : Option Addr} {len cap : Nat} {zs : List Int} (h : IsRow .u8 w a len cap zs) :
    len ≤ zs.length ∧ len ≤ 9223372036854775807 ∧ (len = 0 ∨ ∃ b0 off0, a = some ⟨b0, off0, none⟩ ∧ b0 < w.heap.size ∧ ∀ k, k < len → w.cell? ⟨b0, off0 + k, none⟩ = some (.int .u8 (zs.getD k 0))) := by
  rcases h with ⟨rfl, rfl, rfl, rfl⟩ | ⟨x, rfl, hl, hm, hz, hc, -⟩
  · exact ⟨by simp, by omega, Or.inl rfl⟩
  · refine ⟨by omega, by unfold maxLen at hm; omega, ?_⟩
    by_cases h0 : len = 0
    · exact Or.inl h0
    · obtain ⟨b, off, spot⟩ := x
      have c0 := hc 0 (by omega)
      have hspot : spot = none := by simpa [Addr.add] using World.cell?_spot c0
      subst hspot
      refine Or.inr ⟨b, off, rfl, World.block_lt_of_cell? w _ c0, fun k hk => ?_⟩
      rw [← Go.WideShapes.add_plain]; exact hc k (by omega)

set_option maxHeartbeats 1000000 in
theorem shift_walk (p per r : Int) (w0 : (Lit.int .i64 p).wf = true) (w1 : (Lit.int .i64 per).wf = true) (w2 : (Lit.int .i64 r).wf = true) (a : Option Addr) (len cap : Nat) (zs : List Int) (w : World)
    (hrow : Hid (IsRow .u8 w a len cap zs)) (hT0 : Hid (Lib.TabIs Tryd.prog w tabName .u64 Lib.pow10Tab)) :
    Calls Tryd.prog 3 #[.int .i64 p, .int .i64 per, .int .i64 r, .slice a len cap] w fun e w' => e = .returned (.bool true) ∧ Below w.heap.size w w' := by
  obtain ⟨p1, p2⟩ := bounds_i64 w0
  obtain ⟨q1, q2⟩ := bounds_i64 w1
  obtain ⟨r1, r2⟩ := bounds_i64 w2
  clear w0 w1 w2
  obtain ⟨hzs, hlm, hA⟩ := row_at hrow.out
  have HA := Lib.hid hA
  clear hA
  by_cases hlen : 1048576 < len
  · go_enter Tryd.func3, Tryd.ntmps3
    go_wp2_with (go_at_call 5; refine (bytes_no _ _ _ _ _ _ _ hlen hlm).mono ?_; rintro e w' ⟨rfl, rfl⟩)
    go_ret
    exact ⟨rfl, Below.refl _ _⟩
  have hlen' : len ≤ 1048576 := by omega
  clear hlen
  by_cases c1 : per < 0
  · go_enter Tryd.func3, Tryd.ntmps3
    go_wp2_with (go_at_call 5; refine (bytes_ok _ _ _ _ _ _ _ hlen').mono ?_; rintro e w' ⟨rfl, rfl⟩)
    go_ret
    exact ⟨rfl, Below.refl _ _⟩
  by_cases c2 : 9223372036854775 < per
  · go_enter Tryd.func3, Tryd.ntmps3
    go_wp2_with (go_at_call 5; refine (bytes_ok _ _ _ _ _ _ _ hlen').mono ?_; rintro e w' ⟨rfl, rfl⟩)
    go_ret
    exact ⟨rfl, Below.refl _ _⟩
  by_cases c3 : 0 < per
  · by_cases c4 : p < 0
    · go_enter Tryd.func3, Tryd.ntmps3
      go_wp2_with (go_at_call 5; refine (bytes_ok _ _ _ _ _ _ _ hlen').mono ?_; rintro e w' ⟨rfl, rfl⟩)
      go_ret
      exact ⟨rfl, Below.refl _ _⟩
    by_cases c5 : r < 0
    · go_enter Tryd.func3, Tryd.ntmps3
      go_wp2_with (go_at_call 5; refine (bytes_ok _ _ _ _ _ _ _ hlen').mono ?_; rintro e w' ⟨rfl, rfl⟩)
      go_ret
      exact ⟨rfl, Below.refl _ _⟩
    have hq0 : 0 ≤ (9223372036854775807 - p) / per := Int.ediv_nonneg (by omega) (by omega)
    by_cases c6 : (9223372036854775807 - p) / per < r
    · go_enter Tryd.func3, Tryd.ntmps3
      go_wp2_with (go_at_call 5; refine (bytes_ok _ _ _ _ _ _ _ hlen').mono ?_; rintro e w' ⟨rfl, rfl⟩)
      go_ret
      exact ⟨rfl, Below.refl _ _⟩
    · have m0 : 0 ≤ r * per := Int.mul_nonneg (by omega) (by omega)
      have m1 : r * per ≤ 9223372036854775807 - p := by
        have h1 : r * per ≤ (9223372036854775807 - p) / per * per := Int.mul_le_mul_of_nonneg_right (by omega) (by omega)
        have h2 : (9223372036854775807 - p) / per * per ≤ 9223372036854775807 - p := Int.ediv_mul_le _ (by omega)
        omega
      exact shift_pos p r per (by omega) c3 (by omega) hq0 (by omega) m0 (by omega) a len cap zs w hlen' (by omega) r2 p2 hrow hzs HA.out hT0 (Or.inr ⟨by omega, p2, c3, by omega⟩) (Or.inr ⟨by omega, by omega, c3, by omega⟩)
  · obtain rfl : per = 0 := by omega
    by_cases c5 : r < 0
    · go_enter Tryd.func3, Tryd.ntmps3
      go_wp2_with (go_at_call 5; refine (bytes_ok _ _ _ _ _ _ _ hlen').mono ?_; rintro e w' ⟨rfl, rfl⟩)
      go_ret
      exact ⟨rfl, Below.refl _ _⟩
    · exact shift_zero p r p1 a len cap zs w hlen' (by omega) r2 p2 hrow hzs HA.out hT0 (Or.inl rfl) (Or.inl rfl)
end Go.Proofs.Qxb6608916aDoor
