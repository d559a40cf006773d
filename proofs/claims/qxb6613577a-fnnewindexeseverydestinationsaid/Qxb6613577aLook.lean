import Derived.Test.Qxb6613577aDst
import Derived.Deep.QuietTactic
import Derived.BigQuiet
namespace Go.Proofs.Qxb6613577a
open Go.RowKit
set_option linter.unusedVariables false
set_option linter.unusedSimpArgs false
attribute [local go_sem ↓] Go.wp_at_zero Go.wp_at_succ

theorem zero35 (u : World) : (zeroValue 35).run Try.prog u = .ok (.pointer none) u := by
  obtain ⟨i, hi, hz, -, -⟩ := info_parts info35'
  simp [zeroValue, typeInfo, hi, hz]

def ixV (dst : Nat → Nat) : Option Nat → Value
  | none => .pointer none
  | some i => .pointer (some ⟨dst i, 0, none⟩)

theorem told_val {v : Value} {dst : Nat → Nat} {o : Option Nat} {ps : List MemPlace} (h : Rp v = some (tellIx dst o, ps)) : v = ixV dst o := by
  unfold Rp at h
  split at h
  · cases o with
    | none => rfl
    | some i => simp [tellIx] at h
  · cases o with
    | none => simp [tellIx] at h
    | some i =>
      simp only [tellIx, Option.some.injEq, Prod.mk.injEq, DataW.lit.injEq, Lit.int.injEq, true_and] at h
      simp only [ixV, Value.pointer.injEq, Option.some.injEq, Addr.mk.injEq, and_true]
      omega
  · cases h

theorem look_run {w : World} {ds : List DS} {k dm L : Nat} {dst : Nat → Nat} {D : DataW Unit} (h : w.ownsMap Try.prog 79 Rp dm L D) (hm : MapOk ds k dst D) (kind pc : Int) (h1 : 0 ≤ kind) (h2 : kind ≤ 255) (h3 : 0 ≤ pc) (h4 : pc ≤ 4294967295) :
    (Instr.lookup 71 (.map (some dm)) (.int .u64 (kind * 4294967296 + pc)) false).run Try.prog w = .ok (ixV dst (lastIx ds k kind pc)) w := by
  obtain ⟨v, ps, hrun, hv⟩ := h.lookup (Maps.int_keyed Try.underlying79) Try.underlying71 (zero35 w) (zd := .nil) (zp := []) rfl (key := .int .u64 (kind * 4294967296 + pc)) (kl := .int .u64 (kind * 4294967296 + pc)) (by
    unfold keyOf; rw [Try.underlying79]; simp [mapKey, Try.underlying79, wf_u64 (kind * 4294967296 + pc) (by omega) (by omega)])
  rw [hm.2 kind pc h1 h2 h3 h4] at hv
  rw [hrun, told_val hv]

def LookPost (w : World) (v : Value) (e : Ending) (w' : World) : Prop := e = .returned v ∧ Below w.heap.size w w'

set_option maxHeartbeats 2000000 in
set_option maxRecDepth 100000 in
theorem dest_any (B t c dm mm vb ub nl L k : Nat) (lv : Value) (dst : Nat → Nat) (D : DataW Unit) (ds : List DS) (kind pc : Int) (w : World)
    (hT : TabAt w B t c dm mm vb ub nl L lv k dst D) (hm : MapOk ds k dst D) (h1 : 0 ≤ kind) (h2 : kind ≤ 255) (h3 : 0 ≤ pc) (h4 : pc ≤ 4294967295) :
    Calls Try.prog 13 #[.pointer (some ⟨t, 0, none⟩), .agg #[.int .u8 kind, .int .u32 pc]] w fun e w' => LookPost w (ixV dst (lastIx ds k kind pc)) e w' := by
  have HT := Lib.hid hT
  have HM := Lib.hid hm
  have t1 : w.cell? ⟨t, 1, none⟩ = some (.map (some dm)) := by rw [cell_of_row w t 1 _ 76 _ hT.head]; rfl
  have t1b : (w.alloc (.cells #[.int .u8 kind, .int .u32 pc] 48)).cell? ⟨t, 1, none⟩ = some (.map (some dm)) := alloc_cell t1
  have q0 : (w.alloc (.cells #[.int .u8 kind, .int .u32 pc] 48)).cell? ⟨w.heap.size, 0, none⟩ = some (.int .u8 kind) := cell_new rfl
  have q1 : (w.alloc (.cells #[.int .u8 kind, .int .u32 pc] 48)).cell? ⟨w.heap.size, 1, none⟩ = some (.int .u32 pc) := cell_new rfl
  have hrun := look_run ((HT.out.map.alloc (.cells #[.int .u8 kind, .int .u32 pc] 48)).alloc (.cells #[.int .u8 kind, .int .u32 pc] 48)).drew HM.out kind pc h1 h2 h3 h4
  generalize ixV dst (lastIx ds k kind pc) = V at hrun ⊢
  have hbb : Below w.heap.size w ((w.alloc (.cells #[.int .u8 kind, .int .u32 pc] 48)).alloc (.cells #[.int .u8 kind, .int .u32 pc] 48)).drew := (((Below.refl _ _).alloc (Nat.le_refl _) _).alloc (by simp) _).drew
  clear hT hm
  go_enter Try.func13, Try.ntmps13
  go_wp2_with fail
  go_region_held3 (fun w' => w'.cell? ⟨t, 1, none⟩ = some (.map (some dm)) ∧ w'.cell? ⟨w.heap.size, 0, none⟩ = some (.int .u8 kind) ∧ w'.cell? ⟨w.heap.size, 1, none⟩ = some (.int .u32 pc))
    (first | exact ⟨t1b, q0, q1⟩ | exact ⟨alloc_cell t1b, alloc_cell q0, alloc_cell q1⟩)
    ((go_at_call 23; refine (key_any _ _ _ h1 h2 h3 h4).mono ?_; rintro e w' ⟨rfl, rfl⟩))
  go_wp2
  go_ret
  exact ⟨rfl, hbb⟩

set_option maxHeartbeats 2000000 in
set_option maxRecDepth 100000 in
theorem nest_any (B t c dm mm vb ub nl L n : Nat) (lv : Value) (dst pdf : Nat → Nat) (D : DataW Unit) (ds : List DS) (pc : Int) (w : World)
    (hT : TabAt w B t c dm mm vb ub nl L lv n dst D) (hm : MapOk ds n dst D) (h3 : 0 ≤ pc) (h4 : pc ≤ 4294967295)
    (hD : ∀ i d, ds[i]? = some d → i < n → (∃ nv, DstAt w (dst i) (pdf i) d.rn nv) ∧ w.cell? ⟨pdf i, 2, none⟩ = some (.bool d.nc)) :
    Calls Try.prog 17 #[.pointer (some ⟨t, 0, none⟩), .int .u32 pc] w fun e w' => LookPost w (wantV ds n dst pc) e w' := by
  have HT := Lib.hid hT
  have HM := Lib.hid hm
  obtain ⟨c1, c2⟩ := clOf_range pc h3 h4
  have b1 : Below w.heap.size w (w.alloc (.cells #[.int .u8 1, .int .u32 (clOf pc)] 48)) := (Below.refl _ _).alloc (Nat.le_refl _) _
  have HC := Lib.hid (dest_any B t c dm mm vb ub nl L n lv dst D ds 1 (clOf pc) _ (hT.below b1) hm (by omega) (by omega) c1 c2)
  unfold wantV
  cases hl : lastIx ds n 1 (clOf pc) with
  | none =>
    rw [hl] at HC
    clear hT hm hD
    go_enter Try.func17, Try.ntmps17
    go_wp2_with (first | (go_at_call 24; refine (entry_any _ _ h3 h4).mono ?_; rintro e w' ⟨rfl, rfl⟩) | (go_at_call 13; refine HC.out.mono ?_; rintro e w' ⟨rfl, hb⟩; simp only [ixV]))
    go_ret
    exact ⟨rfl, b1.trans (hb.mono b1.size)⟩
  | some j =>
    rw [hl] at HC
    obtain ⟨hj1, hj2⟩ := lastIx_lt ds n 1 (clOf pc) j hl
    obtain ⟨d, hd⟩ : ∃ d, ds[j]? = some d := ⟨_, List.getElem?_eq_getElem hj2⟩
    obtain ⟨⟨nv, nx, rb, rs, g1, -⟩, g2⟩ := hD j d hd hj1
    have e0 : w.cell? ⟨dst j, 0, none⟩ = some (.pointer (some ⟨pdf j, 0, none⟩)) := by rw [cell_of_row w _ 0 _ 40 _ g1]; rfl
    simp only [hd]
    simp only [ixV] at HC
    generalize dst j = dj at e0 HC ⊢
    generalize pdf j = pj at e0 g2
    clear hT hm hD g1 hl
    cases hnc : d.nc with
    | true =>
      rw [hnc] at g2
      go_enter Try.func17, Try.ntmps17
      go_wp2_with (first | (go_at_call 24; refine (entry_any _ _ h3 h4).mono ?_; rintro e w' ⟨rfl, rfl⟩) | (go_at_call 13; refine HC.out.mono ?_; rintro e w2 ⟨rfl, hb⟩; have hb2 := b1.trans (hb.mono b1.size); have e2 := below_cells hb2 (Nat.le_refl _) _ _ e0; have g3 := below_cells hb2 (Nat.le_refl _) _ _ g2))
      go_ret
      exact ⟨rfl, hb2⟩
    | false =>
      rw [hnc] at g2
      go_enter Try.func17, Try.ntmps17
      go_wp2_with (first | (go_at_call 24; refine (entry_any _ _ h3 h4).mono ?_; rintro e w' ⟨rfl, rfl⟩) | (go_at_call 13; refine HC.out.mono ?_; rintro e w2 ⟨rfl, hb⟩; have hb2 := b1.trans (hb.mono b1.size); have e2 := below_cells hb2 (Nat.le_refl _) _ _ e0; have g3 := below_cells hb2 (Nat.le_refl _) _ _ g2))
      go_ret
      exact ⟨rfl, hb2⟩
end Go.Proofs.Qxb6613577a
