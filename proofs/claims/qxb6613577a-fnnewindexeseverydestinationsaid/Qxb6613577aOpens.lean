import Derived.Test.Qxb6613577aBase
import Derived.ProofKit
import Derived.ChangeArms
import Derived.ChangeSame
import Derived.Deep.Slices
namespace Go.Proofs.Qxb6613577a
open Go.RowKit Go.ChangeShapes Go.Deep
set_option linter.unusedVariables false
set_option linter.unusedSimpArgs false

theorem cells57 : Try.prog.cellsOf 57 = 2 := by kernel_rfl
theorem cells45 : Try.prog.cellsOf 45 = 4 := by kernel_rfl
theorem cells3 : Try.prog.cellsOf 3 = 1 := by kernel_rfl
theorem cells5 : Try.prog.cellsOf 5 = 1 := by kernel_rfl
theorem cells23 : Try.prog.cellsOf 23 = 1 := by kernel_rfl
theorem cells4 : Try.prog.cellsOf 4 = 1 := by kernel_rfl
theorem cells43 : Try.prog.cellsOf 43 = 1 := by kernel_rfl

theorem cells_get {w : World} {base : Nat} {a : Addr} {n : Nat} {cs : List Value} (h : w.cells? base a n = some cs) : cs.length = n ∧ ∀ i, i < n → w.cell? (a.add i) = cs[i]? := by
  unfold World.cells? at h
  split at h
  · exact ⟨by simpa using mapM_some_length h, fun i hi => mapM_some_get h i i (by simp [hi])⟩
  · cases h

theorem spot_none {w : World} {a : Addr} {v : Value} (h : w.cell? a = some v) : a.spot = none := by
  unfold World.cell? at h
  split at h
  · split at h
    · cases h
    · rename_i hs
      cases hp : a.spot with
      | none => rfl
      | some x => rw [hp] at hs; simp at hs
  · cases h

section
variable {H : Type} {enc : TypeId × Value → H} {w : World} {base : Nat} {spare : Nat → Bool} {held : Bool}

theorem int_wf_i64 {x : Int} (h : (Lit.int .i64 x).wf = true) : -9223372036854775808 ≤ x ∧ x ≤ 9223372036854775807 := by
  simp [Lit.wf, IntKind.min, IntKind.max, IntKind.signed, IntKind.bits] at h; omega
theorem int_wf_u8 {x : Int} (h : (Lit.int .u8 x).wf = true) : 0 ≤ x ∧ x ≤ 255 := by
  simp [Lit.wf, IntKind.min, IntKind.max, IntKind.signed, IntKind.bits] at h; omega
theorem int_wf_u32 {x : Int} (h : (Lit.int .u32 x).wf = true) : 0 ≤ x ∧ x ≤ 4294967295 := by
  simp [Lit.wf, IntKind.min, IntKind.max, IntKind.signed, IntKind.bits] at h; omega

theorem el57 {b o fuel : Nat} {cs : List Value} {x : DataW H × List MemPlace} (hc : w.cells? base ⟨b, o, none⟩ 2 = some cs) (h : DataW.trod enc Try.prog w base spare held fuel 57 cs = some x) :
    ∃ l c : Int, w.cell? ⟨b, o, none⟩ = some (.int .i64 l) ∧ w.cell? ⟨b, o + 1, none⟩ = some (.int .i64 c) ∧ -9223372036854775808 ≤ l ∧ l ≤ 9223372036854775807 := by
  obtain ⟨hl, hg⟩ := cells_get hc
  obtain ⟨y0, y1, n, -, -, h0, h1⟩ := trod_struct2 Try.underlying57 h
  match cs, hl with
  | [c0, c1], _ =>
    simp only [cells3, List.drop_zero, List.take_succ_cons, List.take_zero, List.drop_succ_cons] at h0 h1
    obtain ⟨l, e0, -, hw⟩ := DataW.trod_int Try.underlying3 h0
    obtain ⟨c, e1, -, -⟩ := DataW.trod_int Try.underlying3 h1
    have g0 := hg 0 (by omega)
    have g1 := hg 1 (by omega)
    rw [Addr.add_lit] at g0 g1
    simp only [List.cons.injEq, and_true] at e0 e1
    refine ⟨l, c, ?_, ?_, int_wf_i64 hw⟩
    · rw [← e0]; simpa using g0
    · rw [← e1]; simpa using g1

theorem el45 {b o fuel : Nat} {cs : List Value} {x : DataW H × List MemPlace} (hc : w.cells? base ⟨b, o, none⟩ 4 = some cs) (h : DataW.trod enc Try.prog w base spare held fuel 45 cs = some x) : ∃ d : DS, DsOk d ∧ DsAt w b o d := by
  obtain ⟨hl, hg⟩ := cells_get hc
  obtain ⟨xs, n, -, -, -, hlen, hf⟩ := DataW.trod_struct Try.underlying45 h
  have f0 : DataW.trod enc Try.prog w base spare held n 5 ((cs.drop 0).take (Try.prog.cellsOf 5)) = xs[0]? := hf 0 _ rfl
  have f1 : DataW.trod enc Try.prog w base spare held n 23 ((cs.drop 1).take (Try.prog.cellsOf 23)) = xs[1]? := hf 1 _ rfl
  have f2 : DataW.trod enc Try.prog w base spare held n 4 ((cs.drop 2).take (Try.prog.cellsOf 4)) = xs[2]? := hf 2 _ rfl
  have f3 : DataW.trod enc Try.prog w base spare held n 43 ((cs.drop 3).take (Try.prog.cellsOf 43)) = xs[3]? := hf 3 _ rfl
  rw [cells5] at f0
  rw [cells23] at f1
  rw [cells4] at f2
  rw [cells43] at f3
  match cs, hl, xs, hlen with
  | [c0, c1, c2, c3], _, [y0, y1, y2, y3], _ =>
    simp only [List.drop_zero, List.take_succ_cons, List.take_zero, List.drop_succ_cons, List.getElem?_cons_zero, List.getElem?_cons_succ] at f0 f1 f2 f3
    obtain ⟨k0, e0, -, hw0⟩ := DataW.trod_int Try.underlying5 f0
    obtain ⟨k1, e1, -, hw1⟩ := DataW.trod_int Try.underlying23 f1
    obtain ⟨k2, e2, -⟩ := DataW.trod_bool Try.underlying4 f2
    simp only [List.cons.injEq, and_true] at e0 e1 e2
    have g0 := hg 0 (by omega)
    have g1 := hg 1 (by omega)
    have g2 := hg 2 (by omega)
    have g3 := hg 3 (by omega)
    rw [Addr.add_lit] at g0 g1 g2 g3
    simp only [List.getElem?_cons_zero, List.getElem?_cons_succ, Nat.add_zero] at g0 g1 g2 g3
    rw [e0] at g0
    rw [e1] at g1
    rw [e2] at g2
    obtain ⟨u1, u2⟩ := int_wf_u8 hw0
    obtain ⟨u3, u4⟩ := int_wf_u32 hw1
    rcases open_slice Try.underlying43 f3 with ⟨e3, -⟩ | ⟨ra, len, cap, m, n', Dd, Pl, e3, -, hlc, hcm, hm, -, hx⟩
    · simp only [List.cons.injEq, and_true] at e3
      rw [e3] at g3
      exact ⟨⟨k0, k1, k2, none, 0, 0, fun _ => 0, fun _ => 0⟩, ⟨u1, u2, u3, u4, Nat.zero_le _, fun j hj => absurd hj (by simp)⟩, g0, g1, g2, g3, Or.inl rfl⟩
    · simp only [List.cons.injEq, and_true] at e3
      rw [e3] at g3
      have hlm : len ≤ m := by rw [hm]; split <;> omega
      have hmx : len ≤ 9223372036854775807 := by unfold maxLen at hcm; omega
      by_cases h0 : len = 0
      · subst h0
        exact ⟨⟨k0, k1, k2, some ra, 0, cap, fun _ => 0, fun _ => 0⟩, ⟨u1, u2, u3, u4, Nat.zero_le _, fun j hj => absurd hj (by simp)⟩, g0, g1, g2, g3, Or.inl rfl⟩
      · have hsp : ra.spot = none := by
          obtain ⟨cs', hc', -⟩ := hx 0 (by omega)
          rw [cells57, Nat.zero_mul] at hc'
          obtain ⟨hl', hg'⟩ := cells_get hc'
          have := hg' 0 (by omega)
          match cs', hl' with
          | [x0, x1], _ =>
            simp only [Addr.add, if_true] at this
            exact spot_none this
        obtain ⟨rb, ro, rsp⟩ := ra
        simp only at hsp
        subst hsp
        have hy : ∀ j, j < len → ∃ l c : Int, w.cell? ⟨rb, ro + j * 2, none⟩ = some (.int .i64 l) ∧ w.cell? ⟨rb, ro + j * 2 + 1, none⟩ = some (.int .i64 c) ∧ -9223372036854775808 ≤ l ∧ l ≤ 9223372036854775807 := fun j hj => by
          obtain ⟨cs', hc', ht'⟩ := hx j (by omega)
          rw [cells57, Addr.add_lit] at hc'
          exact el57 hc' ht'
        have hy2 : ∀ j, ∃ lc : Int × Int, j < len → w.cell? ⟨rb, ro + j * 2, none⟩ = some (.int .i64 lc.1) ∧ w.cell? ⟨rb, ro + j * 2 + 1, none⟩ = some (.int .i64 lc.2) ∧ -9223372036854775808 ≤ lc.1 ∧ lc.1 ≤ 9223372036854775807 := fun j => by
          by_cases hj : j < len
          · obtain ⟨l, c, h⟩ := hy j hj
            exact ⟨(l, c), fun _ => h⟩
          · exact ⟨(0, 0), fun h => absurd h hj⟩
        obtain ⟨F, hF⟩ := Classical.axiomOfChoice hy2
        exact ⟨⟨k0, k1, k2, some ⟨rb, ro, none⟩, len, cap, fun j => (F j).1, fun j => (F j).2⟩, ⟨u1, u2, u3, u4, hmx, fun j hj => (hF j hj).2.2⟩, g0, g1, g2, g3, Or.inr ⟨rb, ro, rfl, fun j hj => ⟨(hF j hj).1, (hF j hj).2.1⟩⟩⟩

theorem open_spec {fuel : Nat} {a : Option Addr} {n cap : Nat} {x : DataW H × List MemPlace} (h : DataW.trod enc Try.prog w base spare held fuel 22 [.slice a n cap] = some x) : n ≤ 9223372036854775807 ∧ ∃ ds, SpecAt w a n ds := by
  rcases open_slice Try.underlying22 h with ⟨e3, -⟩ | ⟨ra, len, cap', m, n', Dd, Pl, e3, -, hlc, hcm, hm, -, hx⟩
  · simp only [List.cons.injEq, Value.slice.injEq, and_true] at e3
    obtain ⟨rfl, rfl, rfl⟩ := e3
    exact ⟨by omega, [], rfl, fun d hd => absurd hd (by simp), Or.inl rfl⟩
  · simp only [List.cons.injEq, Value.slice.injEq, and_true] at e3
    obtain ⟨rfl, rfl, rfl⟩ := e3
    have hlm : n ≤ m := by rw [hm]; split <;> omega
    refine ⟨by unfold maxLen at hcm; omega, ?_⟩
    by_cases h0 : n = 0
    · subst h0
      exact ⟨[], rfl, fun d hd => absurd hd (by simp), Or.inl rfl⟩
    · have hsp : ra.spot = none := by
        obtain ⟨cs', hc', -⟩ := hx 0 (by omega)
        rw [cells45, Nat.zero_mul] at hc'
        obtain ⟨hl', hg'⟩ := cells_get hc'
        have := hg' 0 (by omega)
        match cs', hl' with
        | [x0, x1, x2, x3], _ =>
          simp only [Addr.add, if_true] at this
          exact spot_none this
      obtain ⟨b, o, sp⟩ := ra
      simp only at hsp
      subst hsp
      have hy2 : ∀ i, ∃ d : DS, i < n → DsOk d ∧ DsAt w b (o + i * 4) d := fun i => by
        by_cases hi : i < n
        · obtain ⟨cs', hc', ht'⟩ := hx i (by omega)
          rw [cells45, Addr.add_lit] at hc'
          obtain ⟨d, hd⟩ := el45 hc' ht'
          exact ⟨d, fun _ => hd⟩
        · exact ⟨⟨0, 0, false, none, 0, 0, fun _ => 0, fun _ => 0⟩, fun h => absurd h hi⟩
      obtain ⟨F, hF⟩ := Classical.axiomOfChoice hy2
      refine ⟨(List.range n).map F, by simp, fun d hd => ?_, Or.inr ⟨b, o, rfl, fun i hi => ?_⟩⟩
      · obtain ⟨i, hi, rfl⟩ := List.mem_map.1 hd
        exact (hF i (List.mem_range.1 hi)).1
      · have hi' : i < n := by simpa using hi
        simpa using (hF i hi').2
end
end Go.Proofs.Qxb6613577a
