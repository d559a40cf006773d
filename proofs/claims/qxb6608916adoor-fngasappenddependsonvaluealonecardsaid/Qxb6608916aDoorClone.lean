import Derived.Test.Qxb6608916aDoorGas
import Derived.Laws.CopyOwn
import Derived.Lib.SliceRun
namespace Go.Proofs.Qxb6608916aDoor
open Go.RowKit Go.Shelf
set_option linter.unusedVariables false

/-- A row of bytes, as the row's frame hands it over: nil; or an address and the numbers in its cells. -/
def IsRow (k : IntKind) (w : World) (a : Option Addr) (len cap : Nat) (zs : List Int) : Prop :=
  (a = none ∧ len = 0 ∧ cap = 0 ∧ zs = []) ∨
  ∃ x, a = some x ∧ len ≤ cap ∧ cap ≤ maxLen ∧ zs.length = cap ∧ (∀ i, i < zs.length → w.cell? (x.add i) = some (.int k (zs.getD i 0))) ∧ ∀ n ∈ zs, (Lit.int k n).wf = true

set_option maxHeartbeats 1000000 in
set_option maxRecDepth 100000 in
theorem clone_some (x : Addr) (len cap : Nat) (zs : List Int) (w : World) (hlc : len ≤ zs.length) (hlen : len ≤ 1048576)
    (hc : ∀ i, i < zs.length → w.cell? (x.add i) = some (.int .u8 (zs.getD i 0))) :
    Calls Tryd.prog 6 #[.slice (some x) len cap] w fun e w' => ∃ v', e = .returned v' ∧ w'.ownsRow w.heap.size 5 1 v' len (ucells (zs.take len)) ∧ Below w.heap.size w w' := by
  obtain ⟨i0, hi, hz0, hz1, hz2⟩ := info_parts infoByte
  have hnil := fun w => Lib.run_eql_slice_nil (P := Tryd.prog) w 22 5 (some x) len cap 0 0 Tryd.underlying22
  go_enter Tryd.func6, Tryd.ntmps6
  go_wp2_with (at_make; refine wpList_make_full _ rfl _ _ 22 rfl w.heap.size 5 i0 (.int .u8 0) 1 Tryd.underlying22 hi hz0 hz1 _ _ _ _ len rfl rfl rfl rfl (by rw [hz2]; omega) (by unfold maxLen; omega) (Nat.le_refl _) ?_; intro w1 hown1 hgrow1; refine Hid.out ?_)
  refine Lib.hid ?_
  obtain ⟨g, cap', cur, hv, -, hh, -, -, hsz, -⟩ : ∃ g cap' cur, Value.slice (some ⟨w.heap.size, 0, none⟩) len len = .slice (some ⟨g, 0, none⟩) len cap' ∧ w.heap.size ≤ g ∧ w1.heap[g]? = some (.cells cur 5 (0, 0)) ∧ len ≤ cap' ∧ cap' ≤ maxLen ∧ cur.size = cap' * 1 ∧ cur.toList.take (len * 1) = (madeCells (Value.int .u8 0).cells (len * 1)).toList := by
    rcases hown1.2 with ⟨h, _⟩ | h
    · cases h
    · exact h
  simp only [Value.slice.injEq, Option.some.injEq, Addr.mk.injEq] at hv
  obtain ⟨⟨rfl, -⟩, -, rfl⟩ := hv
  obtain ⟨L, rfl⟩ : ∃ L : List Value, cur = L.toArray := ⟨cur.toList, by simp⟩
  have hL : L.length = len := by simpa using hsz
  obtain ⟨cs, HC⟩ : ∃ cs, Hid (cs = ucells (zs.take len)) := ⟨_, rfl⟩
  have hcl : cs.length = len := by rw [HC.out]; simp [ucells]; omega
  have hcs : ∀ j v, cs[j]? = some v → w1.cell? (x.add j) = some v := by
    intro j v hj
    rw [HC.out] at hj
    have hjl : j < len := by
      have := (List.getElem?_eq_some_iff.1 hj).1
      simp [ucells] at this; omega
    have hw := hgrow1.cell (hc j (by omega)) (by simp)
    rw [hw]
    simp [ucells, hjl] at hj
    obtain ⟨a, ha, rfl⟩ := hj
    simp [List.getD, ha]
  have hone : ∀ v ∈ cs, v.oneCell' = true := by
    intro v hv
    rw [HC.out] at hv
    simp only [ucells, List.mem_map] at hv
    obtain ⟨a, -, rfl⟩ := hv
    rfl
  have hb1 : Below w.heap.size w w1 := (Below.refl _ _).grown hgrow1 (Nat.le_refl _) (by simp)
  have hsp : splice L 0 cs = cs := by simp [splice]; omega
  have HSP := Lib.hid hsp
  clear hown1 hsp
  go_wp2_with (refine wpList_copy_splice rfl (.tmp 9) (.tmp 10) 22 22 rfl 5 Tryd.underlying22 (by rw [hi]; simp [hz1]) _ _ len len len cap rfl rfl w.heap.size 0 L 5 hh cs (by rw [hcl]; simp) (fun _ => ⟨rfl, x, rfl, hcs⟩) (by omega) hone w.heap.size w hb1 (Nat.le_refl _) ?_; intro w2 HG hb2; refine Hid.out ?_)
  refine Lib.hid ?_
  go_wp2
  go_ret
  refine ⟨_, rfl, ⟨by rw [← HC.out, hcl]; omega, Or.inr ⟨w.heap.size, len, _, rfl, Nat.le_refl _, HG.out, Nat.le_refl _, by unfold maxLen; omega, ?_, ?_⟩⟩, hb2⟩
  · rw [HSP.out]; simp [hcl]
  · rw [HSP.out, ← HC.out, List.take_of_length_le (by simp [hcl])]

theorem clone_nil (w : World) :
    Calls Tryd.prog 6 #[.slice none 0 0] w fun e w' => ∃ v', e = .returned v' ∧ w'.ownsRow w.heap.size 5 1 v' 0 (ucells []) ∧ Below w.heap.size w w' := by
  have hnil := fun w => Lib.run_eql_slice_nil (P := Tryd.prog) w 22 5 none 0 0 0 0 Tryd.underlying22
  go_enter Tryd.func6, Tryd.ntmps6
  go_wp2
  go_ret
  exact ⟨_, rfl, World.ownsRow_nil _ _ _ _, Below.refl _ _⟩

/-- 'zzCloneBytes': a row of the call's own that holds the same bytes. -/
theorem clone_any (a : Option Addr) (len cap : Nat) (zs : List Int) (w : World) (h : IsRow .u8 w a len cap zs) (hlen : len ≤ 1048576) :
    Calls Tryd.prog 6 #[.slice a len cap] w fun e w' => ∃ v', e = .returned v' ∧ w'.ownsRow w.heap.size 5 1 v' len (ucells (zs.take len)) ∧ Below w.heap.size w w' := by
  rcases h with ⟨rfl, rfl, rfl, rfl⟩ | ⟨x, rfl, hl, -, hz, hc, -⟩
  · exact clone_nil w
  · exact clone_some x len cap zs w (by omega) hlen hc
end Go.Proofs.Qxb6608916aDoor
