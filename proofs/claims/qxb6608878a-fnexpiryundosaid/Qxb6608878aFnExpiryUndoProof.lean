/- The proof of 'Rows.FnExpiryUndoSaid': the frame by the guide's shell, the walk by hand, the callee by the contract 'exp_any' (Qxb6608878aWalks). -/
import Derived.Test.Qxb6608878aRows
import Derived.Test.Qxb6608878aWalks
import Derived.WalkKit
import Derived.ProofKit
import Derived.OpenShut
import Derived.ShutString
namespace Go.Proofs.Qxb6608878a.fnExpiryUndo
open Go.ChangeShapes Go.WideShapes Go.ChangeAt Go.RowKit
open Go.ChangeMaps (open_string shut_string)
set_option linter.unusedVariables false      -- a walk need not use every 'w<i>' (that an integer argument fits its kind)

theorem own : ownKnob Try.prog.godebug = none := by kernel_rfl

/-! ### STEP 1: THE WALK: the Go text returns true. 'Grown w w'': the world has at most new blocks (Derived/RowKit3.lean). Part the cases AHEAD of 'go_enter' where a test parts the walk; take each callee by a contract of your own. -/
theorem walk (a0 : Int) (a1 : Int) (w0 : (Lit.int .i64 a0).wf = true) (w1 : (Lit.int .i64 a1).wf = true) (w : World) :
    Calls Try.prog 4 #[.int .i64 a0, .int .i64 a1] w fun e w' => e = .returned (.bool true) ∧ Grown w w' := by
  have b0 := bounds_i64 w0
  have b1 := bounds_i64 w1
  clear w0 w1
  obtain ⟨s1, s2⟩ := b0
  obtain ⟨p1, p2⟩ := b1
  by_cases c1 : a1 = -9223372036854775808
  · have c1' : (a1 == -9223372036854775808) = true := by simp [c1]
    clear c1
    go_enter Try.func4, Try.ntmps4
    go_wp2
    go_ret
    exact ⟨rfl, Grown.refl _⟩
  have c1' : (a1 == -9223372036854775808) = false := by simp [c1]
  have p3 : -9223372036854775807 ≤ a1 := by omega
  clear c1 p1
  by_cases c2 : a1 < 0
  · by_cases c3 : a0 + a1 < -9223372036854775808
    · have c4 : a0 < wrap64 (a0 + a1) := by unfold wrap64; omega
      go_enter Try.func4, Try.ntmps4
      go_wp2
      go_ret
      exact ⟨rfl, Grown.refl _⟩
    · obtain ⟨x1, x2⟩ := ex_bd a0 a1
      have e0 : ex a0 a1 = a0 + a1 := by unfold ex; rw [if_neg (by omega)]; unfold wrap64; omega
      have e1 : (wrap64 (ex a0 a1 - a1) == a0) = true := by rw [e0]; unfold wrap64; simp; omega
      have e2 : (ex (ex a0 a1) (-a1) == a0) = true := by rw [e0]; unfold ex; rw [if_neg (by omega)]; unfold wrap64; simp; omega
      clear e0
      go_enter Try.func4, Try.ntmps4
      go_wp2_with (go_at_call 5; refine (exp_any _ _ _ (by omega) (by omega)).mono ?_; rintro e w' ⟨rfl, rfl⟩)
      go_ret
      exact ⟨rfl, Grown.refl _⟩
  by_cases c3 : 9223372036854775807 < a0 + a1
  · have e0 : (ex a0 a1 == 9223372036854775807) = true := by unfold ex; rw [if_pos (by omega)]; rfl
    have c4 : wrap64 (a0 + a1) < a0 := by unfold wrap64; omega
    go_enter Try.func4, Try.ntmps4
    go_wp2_with (go_at_call 5; refine (exp_any _ _ _ (by omega) (by omega)).mono ?_; rintro e w' ⟨rfl, rfl⟩)
    go_ret
    exact ⟨rfl, Grown.refl _⟩
  · obtain ⟨x1, x2⟩ := ex_bd a0 a1
    have e0 : ex a0 a1 = a0 + a1 := by unfold ex; rw [if_neg (by omega)]; unfold wrap64; omega
    have e1 : (wrap64 (ex a0 a1 - a1) == a0) = true := by rw [e0]; unfold wrap64; simp; omega
    have e2 : (ex (ex a0 a1) (-a1) == a0) = true := by rw [e0]; unfold ex; rw [if_neg (by omega)]; unfold wrap64; simp; omega
    have e3 : (ex a0 a1 - a1 == a0) = true := by rw [e0]; simp
    clear e0
    by_cases c5 : 0 < a1
    · clear e3
      go_enter Try.func4, Try.ntmps4
      go_wp2_with (go_at_call 5; refine (exp_any _ _ _ (by omega) (by omega)).mono ?_; rintro e w' ⟨rfl, rfl⟩)
      go_ret
      exact ⟨rfl, Grown.refl _⟩
    · clear e1
      go_enter Try.func4, Try.ntmps4
      go_wp2_with (go_at_call 5; refine (exp_any _ _ _ (by omega) (by omega)).mono ?_; rintro e w' ⟨rfl, rfl⟩)
      go_ret
      exact ⟨rfl, Grown.refl _⟩

/-! ### THE ROW's STEP: WRITTEN OUT: LEAVE IT -/
set_option maxRecDepth 100000 in
theorem lifted (os : Os) (started : os.Started) (H : Type) (enc : TypeId × Value → H) :
    ReturnsInHanded {} Try.checked os 4 .any (Rows.fnExpiryUndoSpec.pre6 enc Try.prog Try.f4 Rows.fnExpiryUndoRow.domain false) (Rows.fnExpiryUndoSpec.post enc Try.prog Try.f4 false true false false) := by
  refine returnsInHanded_of_change (C := Try.checked) own started (by kernel_rfl) Try.func4
    (ChangeSpec.witness6 (enc := enc) (C := Try.checked) false ⟨#[], #[.int .i64 0, .int .i64 0], []⟩ 8 (by kernel_rfl) (by kernel_rfl) (by kernel_rfl) (by kernel_rfl)) ?_
  intro W base args ds gs before hval0 hW hcnd _
  have hval : ∀ (j : Nat) t v, Try.f4.params[j]? = some t → args[j]? = some v → Value.okWide Try.prog W .any base t v := hval0
  have hW' := hW
  obtain ⟨p, q, hA0, hV, rfl, hfz, hnd⟩ := hW
  have hA : DataW.TrodAll enc Try.prog W 0 (fun _ => true) true Try.f4.params.toList args.toList ds p := hA0
  rw [Try.params4] at hA hval
  obtain ⟨v0, vs0, d0, ds0, p0, q0, hargs, rfl, rfl, h0, r0⟩ := trodAll_cons hA
  obtain ⟨v1, vs1, d1, ds1, p1, q1, rfl, rfl, rfl, h1, r1⟩ := trodAll_cons r0
  obtain ⟨rfl, rfl, rfl⟩ := trodAll_nil r1
  obtain rfl : args = #[v0, v1] := by cases args; simp_all
  obtain ⟨rfl, rfl⟩ := trodVars_none hV
  obtain ⟨a0, rfl, rfl, rfl, w0⟩ := open_int Try.underlying2 (hval 0 2 v0 rfl rfl) h0
  obtain ⟨a1, rfl, rfl, rfl, w1⟩ := open_int Try.underlying2 (hval 1 2 v1 rfl rfl) h1
  clear hA0 hval0
  simp only [List.append_nil] at hW'
  refine (walk a0 a1 w0 w1 W).mono fun e W' ⟨he, hg⟩ => ?_
  subst he
  exact ⟨_, rfl, post_of_same (pa := []) (pv := []) hW' (fun _ _ _ => (trodAll_cons_mk (shut_bool Try.underlying4 _) trodAll_mk0)) (fun sp _ => (trodAll_cons_mk (shut_int Try.underlying2 w0) (trodAll_cons_mk (shut_int Try.underlying2 w1) trodAll_mk0))) (fun _ _ => rfl) rfl
    (hg.frame _) hg.2.1 (ok_one (by kernel_rfl) rfl (okWide_bool_mk Try.underlying4 _))⟩

theorem over : Rows.fnExpiryUndoRow.holds Try.pinned (OpenSpec.ofChange Rows.fnExpiryUndoSpec) :=
  OpenClaim.holds_of_wide 4 Try.f4 rfl rfl rfl rfl rfl rfl rfl ⟨rfl, rfl, rfl, rfl, rfl⟩ rfl rfl rfl rfl rfl (by kernel_rfl) Try.func4 (by kernel_rfl)
    (of_decide_eq_true (by kernel_rfl)) (by unfold Func.isWrapper; first | (rw [if_pos (by decide +kernel)]; kernel_rfl) | (rw [if_neg (by decide +kernel)]; exact ⟨rfl, rfl⟩))
    (fun os started H enc _ => lifted os started H enc)

/-- ████ THE STATEMENT ████ -/
theorem proved : Rows.FnExpiryUndoSaid :=
  over
#print axioms proved
end Go.Proofs.Qxb6608878a.fnExpiryUndo
