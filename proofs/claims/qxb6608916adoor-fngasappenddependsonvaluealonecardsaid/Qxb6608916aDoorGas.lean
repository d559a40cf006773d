import Derived.Test.Qxb6608916aDoorAppend
namespace Go.Proofs.Qxb6608916aDoor
open Go.RowKit Go.Shelf
set_option linter.unusedVariables false

/-- The text of Gas{n, per}, as cells. -/
def gtxt (n per : Int) : List Value := if per = 0 then [.int .u8 48] else Lib.byteCells (Lib.itoa (gW n per)) ++ ucells (fbytes (gF n per))

/-- What Gas.append asks of its numbers. -/
def gasOk (n per : Int) : Prop := per = 0 ∨ (0 ≤ n ∧ n ≤ 9223372036854775807 ∧ 0 < per ∧ per ≤ 9223372036854775)

theorem newGas (n per : Int) (w : World) :
    Calls Tryd.prog 8 #[.int .i64 n, .int .i64 per] w fun e w' => e = .returned (.agg #[.int .i64 n, .int .i64 per]) ∧ Below w.heap.size w w' := by
  go_enter Tryd.func8, Tryd.ntmps8
  go_wp2
  exact bodyPost_ret (v := .agg #[.int .i64 n, .int .i64 per]) (by simp [results, Tryd.results8, go_sem]) rfl ⟨rfl, (Below.refl _ _).alloc (Nat.le_refl _) _⟩

set_option maxHeartbeats 1000000 in
set_option maxRecDepth 100000 in
theorem gasApp (n per : Int) (B m : Nat) (sv : Value) (xs : List Value) (w : World) (hok : Hid (gasOk n per))
    (hown : w.ownsRow B 5 1 sv m xs) (hB : B ≤ w.heap.size) (hm : m + 100 ≤ 140737488355328) (hT : Lib.TabBelow Tryd.prog B w tabName .u64 Lib.pow10Tab) :
    Calls Tryd.prog 12 #[.agg #[.int .i64 n, .int .i64 per], sv] w fun e w' => ∃ v', e = .returned v' ∧ w'.ownsRow B 5 1 v' (m + (gtxt n per).length) (xs ++ gtxt n per) ∧ Below B w w' := by
  by_cases h0 : per = 0
  · subst h0
    have HG : Hid (gtxt n 0 = [.int .u8 48]) := rfl
    obtain ⟨i0, hi, hz0, hz1, hz2⟩ := info_parts infoByte
    go_enter Tryd.func12, Tryd.ntmps12
    go_wp2_with (at_builtin; refine wpList_append_own _ rfl _ _ 22 rfl B 5 i0 (.int .u8 0) 1 1 Tryd.underlying22 hi hz0 hz1 hz2 rfl (by decide) _ _ _ rfl ((hown.alloc _).alloc _) ⟨w.heap.size + 1, 0, none⟩ 1 1 [Value.int .u8 48] rfl rfl (by intro j u' hj; match j, hj with | 0, hj => simp at hj; subst hj; simp [Addr.add]) (by intro u' hu'; simp at hu'; subst hu'; rfl) (by unfold maxLen; omega) (by omega) (by simp; omega) ?_; intro v2 w3 hown2 hgrow2 _; refine Hid.out ?_)
    refine Lib.hid ?_
    have hb2 : Below B w w3 := (((Below.refl B w).alloc hB _).alloc (by simp; omega) _).grown hgrow2 (by simp; omega) (fun k hk => (hown.lt k hk).1)
    go_wp2
    go_ret
    exact ⟨v2, rfl, by rw [HG.out]; exact hown2, hb2⟩
  · have hok' := hok.out
    rcases hok' with h | ⟨hn, hn2, hp, hp2⟩
    · exact absurd h h0
    have hp0 : (per == 0) = false := by simp [h0]
    have HG : Hid (gtxt n per = Lib.byteCells (Lib.itoa (gW n per)) ++ ucells (fbytes (gF n per))) := by show gtxt n per = _; unfold gtxt; rw [if_neg h0]
    clear h0
    go_enter Tryd.func12, Tryd.ntmps12
    go_wp2_with (go_at_call 14; refine (ar_any n per B m sv xs _ hn hn2 hp hp2 (hown.alloc _) (by simp; omega) hm (hT.on ((Below.refl _ _).alloc hB _))).mono ?_; rintro e w2 ⟨v1, rfl, hown1, hb1⟩)
    go_ret
    exact ⟨v1, rfl, by rw [HG.out]; simpa [Lib.byteCells, ucells, Nat.add_assoc] using hown1, ((Below.refl _ _).alloc hB _).trans hb1⟩

set_option maxHeartbeats 1000000 in
set_option maxRecDepth 100000 in
theorem zzGasApp (n per : Int) (B m : Nat) (sv : Value) (xs : List Value) (w : World) (hok : Hid (gasOk n per))
    (hown : w.ownsRow B 5 1 sv m xs) (hB : B ≤ w.heap.size) (hm : m + 100 ≤ 140737488355328) (hT : Lib.TabBelow Tryd.prog B w tabName .u64 Lib.pow10Tab) :
    Calls Tryd.prog 7 #[.agg #[.int .i64 n, .int .i64 per], sv] w fun e w' => ∃ v', e = .returned v' ∧ w'.ownsRow B 5 1 v' (m + (gtxt n per).length) (xs ++ gtxt n per) ∧ Below B w w' := by
  go_enter Tryd.func7, Tryd.ntmps7
  go_wp2_with (go_at_call 12; refine (gasApp n per B m sv xs _ hok (hown.alloc _) (by simp; omega) hm (hT.on ((Below.refl _ _).alloc hB _))).mono ?_; rintro e w2 ⟨v1, rfl, hown1, hb1⟩)
  go_ret
  exact ⟨v1, rfl, hown1, ((Below.refl _ _).alloc hB _).trans hb1⟩
end Go.Proofs.Qxb6608916aDoor
