import Derived.Test.Qxb6613577aTab3
import Derived.Test.Qxb6613577aKey
import Derived.Deep.QuietTactic
import Derived.BigQuiet
namespace Go.Proofs.Qxb6613577a
open Go.RowKit
open Go.WideElems (Fit)
open Go.ChangeMaps (setBlock heap_setBlock_same heap_setBlock_other)
set_option linter.unusedVariables false
set_option linter.unusedSimpArgs false
attribute [local go_sem ↓] Go.wp_at_zero Go.wp_at_succ

/-- What the adding of one destination leaves. -/
def AddPost (w : World) (B t c dm mm vb ub nl L k : Nat) (dst : Nat → Nat) (D : DataW Unit) (w' : World) : Prop := ∃ lv, TabAt w' B t c dm mm vb ub nl L lv k dst D ∧ Below B w w' ∧ Kp w w'

theorem set_cell1 {w : World} {g i : Nat} {u x : Value} {q : Addr} (h : w.cell? q = some x) (hb : q.block ≠ g) : (w.setCell ⟨g, i, none⟩ u).cell? q = some x := by
  rw [World.cell?_setCell_other _ _ _ _ (fun e => hb (by rw [← e]))]; exact h
theorem own_stay {w w' : World} {B : Nat} {e : TypeId} {size : Nat} {v : Value} {n : Nat} {xs : List Value} (h : w.ownsRow B e size v n xs) (hb : Below w.heap.size w w') : w'.ownsRow B e size v n xs :=
  h.kept (row := none) ⟨hb.os, hb.tape, hb.output, hb.size, fun k hk _ => hb.block k hk⟩ (by cases h' : v.ownBlock <;> simp)

theorem sb_cell {w : World} {mm : Nat} {es : Array MapEntry} {cl : Nat} {o : Obj} {x : Value} {q : Addr} (hm : w.heap[mm]? = some (.map es cl)) (h : w.cell? q = some x) (hq : q.block ≠ mm) : (setBlock w mm o).cell? q = some x := by
  rw [World.cell?_of_block (heap_setBlock_other hm o hq)]; exact h
theorem info33' : (Try.prog.info? 33).map (fun i => (i.zero, i.size, i.bytes)) = some (some (.slice none 0 0), 1, 24) := by kernel_rfl
theorem zero33 (u : World) : (zeroValue 33).run Try.prog u = .ok (.slice none 0 0) u := by
  obtain ⟨i, hi, hz, -, -⟩ := info_parts info33'
  simp [zeroValue, typeInfo, hi, hz]

/-- 'm[k] = v' in whatever world. -/
theorem put_laws {dm L : Nat} {w : World} {D : DataW Unit} {key : Int} {d0 : Nat} (h : w.ownsMap Try.prog 79 Rp dm L D) (hL : L < 1000000) (h1 : 0 ≤ key) (h2 : key ≤ 18446744073709551615) :
    ∃ w', (Instr.mapUpdate 71 (.map (some dm)) (.int .u64 key) (.pointer (some ⟨d0, 0, none⟩))).run Try.prog w = .ok () w' ∧ w'.ownsMap Try.prog 79 Rp dm (L + 1) (D.put (.int .u64 key) (.lit (.int .i64 d0))) ∧ w.grownBy w' (some dm) := by
  refine h.update (Maps.int_keyed Try.underlying79) Try.underlying71 (by unfold maxLen; omega) ?_ (ps := []) rfl
  unfold keyOf
  rw [Try.underlying79]
  simp [mapKey, Try.underlying79, wf_u64 key h1 h2]

set_option maxHeartbeats 4000000 in
set_option maxRecDepth 100000 in
theorem add_any (B t c dm mm vb ub nl L k p d0 X : Nat) (lv nv rv : Value) (dst : Nat → Nat) (D : DataW Unit) (d : DS) (w0 w : World)
    (hT : TabAt w B t c dm mm vb ub nl L lv k dst D) (hd0 : dst k = d0) (hd : w.heap[d0]? = some (.cells #[.pointer (some ⟨p, 0, none⟩), nv, rv, .pointer none, .pointer none, .bool false] 40 (0, 0)))
    (hw0 : w0.heap.size ≤ B) (hb0 : Below B w0 w) (hp : PdAt w0 X nl p d) (hok : DsOk d) (hk : k ≤ L) (hL : L + 3 + d.rn ≤ 1000000) :
    Calls Try.prog 20 #[.pointer (some ⟨t, 0, none⟩), .pointer (some ⟨d0, 0, none⟩)] w fun e w' => e = .returned (.tuple #[]) ∧ AddPost w B t c dm mm vb ub nl (L + 3 + d.rn) (k + 1) dst (D.put (.int .u64 (d.kind * 4294967296 + d.pc)) (.lit (.int .i64 d0))) w' := by
  obtain ⟨o1, o2, o3, o4, o5, o6⟩ := hok
  have HT := Lib.hid hT
  have HB := Lib.hid hb0
  have npB : p < B := Nat.lt_of_lt_of_le (World.block_lt_of_cell? w0 _ (hp.2.1)) hw0
  obtain ⟨hX, q0, q1, -, ra, q4, hra⟩ := hp
  have PX : Hid (∀ wx, Below B w0 wx → wx.cell? ⟨p, 0, none⟩ = some (.int .u8 d.kind) ∧ wx.cell? ⟨p, 1, none⟩ = some (.int .u32 d.pc) ∧ wx.cell? ⟨p, 4, none⟩ = some (.slice ra d.rn d.rn) ) := fun wx hx =>
    have sm : Same X w0 wx := Same.below hx hw0
    ⟨sm _ _ q0 hX, sm _ _ q1 hX, sm _ _ q4 hX⟩
  have HRA := Lib.hid hra
  have EX : Hid (∀ wx, Kp w wx → wx.cell? ⟨d0, 0, none⟩ = some (.pointer (some ⟨p, 0, none⟩))) := fun wx hx => by rw [cell_of_row wx d0 0 _ 40 _ (hx d0 _ 40 _ hd (Or.inl rfl))]; rfl
  obtain ⟨p0, p1, -⟩ := PX.out w hb0
  have t1 : w.cell? ⟨t, 1, none⟩ = some (.map (some dm)) := by rw [cell_of_row w t 1 _ 76 _ hT.head]; rfl
  have e0 : w.cell? ⟨d0, 0, none⟩ = some (.pointer (some ⟨p, 0, none⟩)) := EX.out w (Kp.refl w)
  have nd : ∀ {i : Nat} {cs : Array Value} {e : TypeId}, w.heap[i]? = some (.cells cs e (0, 0)) → i ≠ dm := fun {i cs e} hi e' => by
    obtain ⟨es0, cl0, b0, -⟩ := HT.out.map
    subst e'; rw [b0] at hi; cases hi
  have nt := nd hT.head
  have n0 := nd hd
  have np : p ≠ dm := by have := HT.out.low.2.1; omega
  have hlow := HT.out.low.2.2.2.2.2
  clear hra hT hd hb0 nd q0 q1 q4
  go_enter Try.func20, Try.ntmps20
  go_wp2_with fail
  go_region_held3 (fun w' => w'.cell? ⟨t, 1, none⟩ = some (.map (some dm)) ∧ w'.cell? ⟨d0, 0, none⟩ = some (.pointer (some ⟨p, 0, none⟩)) ∧ w'.cell? ⟨p, 0, none⟩ = some (.int .u8 d.kind) ∧ w'.cell? ⟨p, 1, none⟩ = some (.int .u32 d.pc))
    (first | exact ⟨t1, e0, p0, p1⟩ | exact ⟨hgr1.cell (alloc_cell t1) (by simpa using nt), hgr1.cell (alloc_cell e0) (by simpa using n0), hgr1.cell (alloc_cell p0) (by simpa using np), hgr1.cell (alloc_cell p1) (by simpa using np)⟩ | exact ⟨alloc_cell t1, alloc_cell e0, alloc_cell p0, alloc_cell p1⟩)
    ((go_at_call 23; refine (key_any _ _ _ o1 o2 o3 o4).mono ?_; rintro e w' ⟨rfl, rfl⟩; obtain ⟨w1, hrun1, hown1, hgr1⟩ := put_laws (d0 := d0) (key := d.kind * 4294967296 + d.pc) ((HT.out.map.alloc (.cells #[.int .u8 d.kind, .int .u32 d.pc] 48)).drew) (by omega) (by omega) (by omega)))
  have ba : Below w.heap.size w (w.alloc (.cells #[.int .u8 d.kind, .int .u32 d.pc] 48)).drew := ((Below.refl _ _).alloc (Nat.le_refl _) _).drew
  have HT1 := Lib.hid ((HT.out.below ba).put hown1 hgr1)
  have hb1 : Below B w w1 := (ba.mono hlow).grown hgr1 (by have := ba.size; omega) (fun k hk => by cases hk; exact HT.out.low.2.1)
  have hk1 : Kp w w1 := by
    obtain ⟨es0, cl0, b0, -⟩ := (HT.out.below ba).map
    exact (Kp.below ba).trans (Kp.calm (T := 0) (Calm.of_map b0 hgr1) (by decide) (by decide))
  obtain ⟨D1, hD1⟩ : ∃ D1, Hid (D1 = D.put (.int .u64 (d.kind * 4294967296 + d.pc)) (.lit (.int .i64 d0))) := ⟨_, rfl⟩
  rw [← hD1.out] at HT1
  clear hrun1 hown1 hgr1 ba t1 e0 p0 p1 nt n0
  have hs1 : w.heap.size ≤ w1.heap.size := hb1.size
  have t2 : w1.cell? ⟨t, 2, none⟩ = some lv := by rw [cell_of_row w1 t 2 _ 76 _ HT1.out.head]; rfl
  have ba1 : ∀ o, Below w1.heap.size w1 (w1.alloc o) := fun o => (Below.refl _ _).alloc (Nat.le_refl _) o
  by_cases hk0 : d.kind = 0
  · have hkd : (d.kind == 0) = true := by simp [hk0]
    go_wp2_with (first | (at_builtin; go_loud (refine wpList_app _ (by rfl) _ _ (by rfl) B lv k _ (by rfl) (HT1.out.list.alloc (.cells #[.pointer (some ⟨d0, 0, none⟩)] 35)) w1.heap.size (.pointer (some ⟨d0, 0, none⟩)) (by rfl) (heap_alloc_new w1 _) rfl (by omega) (Nat.le_trans (Nat.le_trans hlow hs1) (ba1 _).size) (w1.heap.size + 1) (by simp) ?_; intro g2 cap2 w2 hown2 hgr2 hat2 hc2; have u1 := (hc2 t _ 76 (0, 0) (HT1.out.below (ba1 _)).head); have u2 : w2.cell? ⟨t, 2, none⟩ = some lv := (by obtain ⟨cu, u3, -, u5⟩ := u1; rw [cell_of_row w2 t 2 _ 76 _ u3, u5 (by decide)]; rfl); have u3 : w2.frozen? ⟨t, 2, none⟩ = false := (by obtain ⟨cu, u3, -, u5⟩ := u1; exact frozen_of_row w2 t 2 _ 76 u3); clear u1; have hk2 : Kp w w2 := (hk1.trans (Kp.below (ba1 _))).trans (Kp.calm hc2 (by decide) (by decide)); have hb2 : Below B w w2 := hb1.trans (((ba1 _).mono (Nat.le_trans hlow hs1)).grown hgr2 (Nat.le_trans (Nat.le_trans hlow hs1) (ba1 _).size) (fun i hi => (HT1.out.list.lt i hi).1)); obtain ⟨x0, x1, x4⟩ := PX.out w2 (HB.out.trans hb2); have e2 := EX.out w2 hk2)) | (go_at_call 24; refine (entry_any _ _ o3 o4).mono ?_; rintro e w' ⟨rfl, rfl⟩))
    have hT2 := (HT1.out.below (ba1 _)).app_list (g := g2) (cap := cap2) (by rw [hd0]; exact hown2) hgr2 (by simpa using hat2) hc2
    have hs2e := hb2.size
    generalize hw4 : ((w2.setCell ⟨t, 2, none⟩ (.slice (some ⟨g2, 0, none⟩) (k + 1) cap2)).alloc (.cells #[.int .u8 1, .int .u32 (clOf d.pc)] 48)).alloc (.cells #[.int .u8 1, .int .u32 (clOf d.pc)] 48) = w4
    have b24 : Below w2.heap.size (w2.setCell ⟨t, 2, none⟩ (.slice (some ⟨g2, 0, none⟩) (k + 1) cap2)) w4 := by
      rw [← hw4]; exact ((Below.refl _ _).alloc (by simp) _).alloc (by simp) _
    have b24' : Below (w2.setCell ⟨t, 2, none⟩ (.slice (some ⟨g2, 0, none⟩) (k + 1) cap2)).heap.size (w2.setCell ⟨t, 2, none⟩ (.slice (some ⟨g2, 0, none⟩) (k + 1) cap2)) w4 := by
      rw [World.size_setCell]; exact b24
    have Q48 : Hid (w4.heap[w2.heap.size + 1]? = some (.cells #[.int .u8 1, .int .u32 (clOf d.pc)] 48 (0, 0))) := by
      rw [← hw4]
      have := heap_alloc_new ((w2.setCell ⟨t, 2, none⟩ (.slice (some ⟨g2, 0, none⟩) (k + 1) cap2)).alloc (.cells #[.int .u8 1, .int .u32 (clOf d.pc)] 48)) (.cells #[.int .u8 1, .int .u32 (clOf d.pc)] 48)
      rw [show ((w2.setCell ⟨t, 2, none⟩ (.slice (some ⟨g2, 0, none⟩) (k + 1) cap2)).alloc (.cells #[.int .u8 1, .int .u32 (clOf d.pc)] 48)).heap.size = w2.heap.size + 1 by simp] at this
      exact this
    have HT4 := Lib.hid (hT2.below b24')
    have hb4 : Below B w w4 := (hb2.setCell HT1.out.low.1 _).trans (b24.mono (by omega))
    have HK4 : Hid (Kp w w4) := by
      obtain ⟨cu, u4, -⟩ := hc2 t _ 76 (0, 0) (HT1.out.below (ba1 _)).head
      exact (hk2.trans (Kp.calm (Calm.set u4) (by decide) (by decide))).trans (Kp.below b24')
    clear hw4 b24 b24' hT2 u2 u3 x0 x1 x4 e2 hown2 hgr2 hat2 hc2 t2 hk2
    have hl4 : B ≤ w4.heap.size := HT4.out.low.2.2.2.2.2
    obtain ⟨cr1, cr2⟩ := clOf_range d.pc o3 o4
    obtain ⟨kl, hkey⟩ := key48 (clOf d.pc) cr1 cr2
    obtain ⟨es, cl, m1, m2, m3, m4⟩ := HT4.out.mem
    obtain ⟨v0, st, es1, cl1, hE, hF1, hz1, hw1, hv0, hst⟩ := entry_laws (b := mm) (z := .slice none 0 0) law48 Try.underlying72 zero33 m3 (by unfold maxLen; omega) hkey
    obtain ⟨n0, xs0, hn0, ho0, hne0⟩ : Loose w4 B (L + 1) (Value.ownBlock (.slice (some ⟨g2, 0, none⟩) (k + 1) cap2)) v0 := by
      rcases hv0 with rfl | ⟨y, hy, rfl⟩
      · exact loose_nil _ _ _ _
      · exact m4 y hy
    have HM4 := Lib.hid m4
    have c3 : w4.cell? ⟨t, 3, none⟩ = some (.map (some mm)) := by rw [cell_of_row w4 t 3 _ 76 _ HT4.out.head]; rfl
    have cq0 : w4.cell? ⟨w2.heap.size + 1, 0, none⟩ = some (.int .u8 1) := by rw [cell_of_row w4 _ 0 _ 48 _ Q48.out]; rfl
    have cq1 : w4.cell? ⟨w2.heap.size + 1, 1, none⟩ = some (.int .u32 (clOf d.pc)) := by rw [cell_of_row w4 _ 1 _ 48 _ Q48.out]; rfl
    have QC : ∀ (wx : World) {wy : World}, wx.heap[w2.heap.size + 1]? = some (.cells #[.int .u8 1, .int .u32 (clOf d.pc)] 48 (0, 0)) → Calm 35 wx wy → wy.heap[w2.heap.size + 1]? = some (.cells #[.int .u8 1, .int .u32 (clOf d.pc)] 48 (0, 0)) := fun wx wy h1 h2 => by
      obtain ⟨cu, a1, -, a3⟩ := h2 _ _ _ _ h1
      rw [a1, a3 (by decide)]
    have hmq : w2.heap.size + 1 ≠ mm := by intro e; have := Q48.out; rw [e, m1] at this; cases this
    have hmt : t ≠ mm := by intro e; have := HT4.out.head; rw [e, m1] at this; cases this
    have b4a : Below w4.heap.size w4 (w4.alloc (.cells #[.pointer (some ⟨d0, 0, none⟩)] 35)).drew := ((Below.refl _ _).alloc (Nat.le_refl _) _).drew
    have hma : (w4.alloc (.cells #[.pointer (some ⟨d0, 0, none⟩)] 35)).drew.heap[mm]? = some (.map es cl) := by rw [b4a.block _ (lt_of_heap m1)]; exact m1
    have hEA := hE _ hma
    have hEB := hE w4.drew m1
    have LL : ∀ (wx : World), (∀ v, Loose w4 B (L + 1) (Value.ownBlock (.slice (some ⟨g2, 0, none⟩) (k + 1) cap2)) v → Loose wx B (L + 1) (Value.ownBlock (.slice (some ⟨g2, 0, none⟩) (k + 1) cap2)) v) → ∀ x ∈ es1.toList, Loose wx B (L + 2) (Value.ownBlock (.slice (some ⟨g2, 0, none⟩) (k + 1) cap2)) x.val := fun wx hx x hx1 => by
      rcases hw1 x hx1 with e | h
      · rw [e]; exact loose_nil _ _ _ _
      · exact (hx _ (m4 x h)).mono (by omega)
    have TA := ((HT4.out.below b4a).mono (L' := L + 2) (by omega)).store_mem (es' := es1) (cl' := cl1) (by omega) hF1 (LL _ (fun v hv => hv.calm (Calm.of_below (T := 0) b4a)))
    have d4 : Below w4.heap.size w4 w4.drew := (Below.refl _ _).drew
    have TB := ((HT4.out.below d4).mono (L' := L + 2) (by omega)).store_mem (es' := es1) (cl' := cl1) (by omega) hF1 (LL _ (fun v hv => hv.calm (Calm.of_below (T := 0) d4)))
    have gA : (w4.alloc (.cells #[.pointer (some ⟨d0, 0, none⟩)] 35)).drew.grownBy (setBlock (w4.alloc (.cells #[.pointer (some ⟨d0, 0, none⟩)] 35)).drew mm (.map es1 cl1)) (some mm) := ⟨rfl, rfl, rfl, by simp [setBlock], fun i _ hi => heap_setBlock_other hma _ (fun e => hi (by rw [e]))⟩
    have gB : w4.grownBy (setBlock w4.drew mm (.map es1 cl1)) (some mm) := ⟨rfl, rfl, rfl, by simp [setBlock], fun i _ hi => heap_setBlock_other (w := w4.drew) m1 _ (fun e => hi (by rw [e]))⟩
    have nm0 : v0.ownBlock = none ∨ v0.ownBlock ≠ some mm := by
      rcases ho0.2 with ⟨rfl, -⟩ | ⟨g', cap', cur, rfl, b1, b2, -⟩
      · exact Or.inl rfl
      · refine Or.inr (fun e => ?_)
        simp only [Value.ownBlock, Option.some.injEq] at e
        subst e; rw [b2] at m1; cases m1
    have OA := (own_stay ho0 b4a).kept gA nm0
    have OB := ho0.kept gB nm0
    have bA : Below B w (setBlock (w4.alloc (.cells #[.pointer (some ⟨d0, 0, none⟩)] 35)).drew mm (.map es1 cl1)) := (hb4.trans (b4a.mono hl4)).grown gA (Nat.le_trans hl4 b4a.size) (fun i hi => by cases hi; exact HT4.out.low.2.2.1)
    have bB : Below B w (setBlock w4.drew mm (.map es1 cl1)) := hb4.grown gB hl4 (fun i hi => by cases hi; exact HT4.out.low.2.2.1)
    have HKA : Hid (Kp w (setBlock (w4.alloc (.cells #[.pointer (some ⟨d0, 0, none⟩)] 35)).drew mm (.map es1 cl1))) := (HK4.out.trans (Kp.below b4a)).trans (Kp.calm (T := 0) (Calm.of_map hma gA) (by decide) (by decide))
    have HKB : Hid (Kp w (setBlock w4.drew mm (.map es1 cl1))) := HK4.out.trans (Kp.calm (T := 0) (Calm.of_map m1 gB) (by decide) (by decide))
    have qA : (setBlock (w4.alloc (.cells #[.pointer (some ⟨d0, 0, none⟩)] 35)).drew mm (.map es1 cl1)).heap[w2.heap.size + 1]? = some (.cells #[.int .u8 1, .int .u32 (clOf d.pc)] 48 (0, 0)) := by rw [heap_setBlock_other hma _ hmq, b4a.block _ (lt_of_heap Q48.out)]; exact Q48.out
    have qB : (setBlock w4.drew mm (.map es1 cl1)).heap[w2.heap.size + 1]? = some (.cells #[.int .u8 1, .int .u32 (clOf d.pc)] 48 (0, 0)) := by rw [heap_setBlock_other (w := w4.drew) m1 _ hmq]; exact Q48.out
    have nA : (setBlock (w4.alloc (.cells #[.pointer (some ⟨d0, 0, none⟩)] 35)).drew mm (.map es1 cl1)).heap[w4.heap.size]? = some (.cells #[.pointer (some ⟨d0, 0, none⟩)] 35 (0, 0)) := by
      rw [heap_setBlock_other hma _ (by have := lt_of_heap m1; omega)]; exact heap_alloc_new w4 _
    have mA := heap_setBlock_same hma (.map es1 cl1)
    have mB := heap_setBlock_same (w := w4.drew) m1 (.map es1 cl1)
    have CA : Hid (∀ v, Loose w4 B (L + 1) (Value.ownBlock (.slice (some ⟨g2, 0, none⟩) (k + 1) cap2)) v → Loose (setBlock (w4.alloc (.cells #[.pointer (some ⟨d0, 0, none⟩)] 35)).drew mm (.map es1 cl1)) B (L + 1) (Value.ownBlock (.slice (some ⟨g2, 0, none⟩) (k + 1) cap2)) v) := fun v hv => (hv.calm (Calm.of_below (T := 0) b4a)).calm (Calm.of_map (T := 0) hma gA)
    have CB : Hid (∀ v, Loose w4 B (L + 1) (Value.ownBlock (.slice (some ⟨g2, 0, none⟩) (k + 1) cap2)) v → Loose (setBlock w4.drew mm (.map es1 cl1)) B (L + 1) (Value.ownBlock (.slice (some ⟨g2, 0, none⟩) (k + 1) cap2)) v) := fun v hv => hv.calm (Calm.of_map (T := 0) m1 gB)
    generalize hwA : setBlock (w4.alloc (.cells #[.pointer (some ⟨d0, 0, none⟩)] 35)).drew mm (.map es1 cl1) = wA at TA OA bA HKA qA nA mA hEA CA
    generalize hwB : setBlock w4.drew mm (.map es1 cl1) = wB at OB bB HKB qB mB hEB CB
    have TB' : TabAt wB B t c dm mm vb ub nl (L + 2) (.slice (some ⟨g2, 0, none⟩) (k + 1) cap2) (k + 1) dst D1 := by rw [← hwB]; exact TB
    clear hwA hwB TB gA gB hE hma b4a LL m1 hw1 hv0 ho0
    have baB : ∀ o, Below wB.heap.size wB (wB.alloc o) := fun o => (Below.refl _ _).alloc (Nat.le_refl _) o
    have NB : ∀ o : Obj, (wB.alloc o).heap[mm]? = some (.map es1 cl1) := fun o => by rw [(baB o).block _ (lt_of_heap mB)]; exact mB
    have a3 : wA.cell? ⟨t, 3, none⟩ = some (.map (some mm)) := by rw [cell_of_row wA t 3 _ 76 _ TA.head]; rfl
    have aq0 : wA.cell? ⟨w2.heap.size + 1, 0, none⟩ = some (.int .u8 1) := by rw [cell_of_row wA _ 0 _ 48 _ qA]; rfl
    have aq1 : wA.cell? ⟨w2.heap.size + 1, 1, none⟩ = some (.int .u32 (clOf d.pc)) := by rw [cell_of_row wA _ 1 _ 48 _ qA]; rfl
    have b3 : wB.cell? ⟨t, 3, none⟩ = some (.map (some mm)) := by rw [cell_of_row wB t 3 _ 76 _ TB'.head]; rfl
    have bq0 : wB.cell? ⟨w2.heap.size + 1, 0, none⟩ = some (.int .u8 1) := by rw [cell_of_row wB _ 0 _ 48 _ qB]; rfl
    have bq1 : wB.cell? ⟨w2.heap.size + 1, 1, none⟩ = some (.int .u32 (clOf d.pc)) := by rw [cell_of_row wB _ 1 _ 48 _ qB]; rfl
    have HTA := Lib.hid TA
    have HTB := Lib.hid TB'
    have HOA := Lib.hid OA
    have HOB := Lib.hid OB
    have HNN := Lib.hid hne0
    have HQA := Lib.hid qA
    have HQB := Lib.hid qB
    have HNA := Lib.hid nA
    have HMA := Lib.hid mA
    have HNB := Lib.hid NB
    clear TA TB' OA OB hne0 qA qB nA mA mB NB
    go_region_held3 (fun w' => w'.cell? ⟨t, 3, none⟩ = some (.map (some mm)) ∧ w'.cell? ⟨w2.heap.size + 1, 0, none⟩ = some (.int .u8 1) ∧ w'.cell? ⟨w2.heap.size + 1, 1, none⟩ = some (.int .u32 (clOf d.pc)))
      (first | exact ⟨c3, cq0, cq1⟩ | exact ⟨a3, aq0, aq1⟩ | exact ⟨b3, bq0, bq1⟩ | exact ⟨k3, kq0, kq1⟩ | exact ⟨sb_cell HM5.out k3 hmt, sb_cell HM5.out kq0 hmq, sb_cell HM5.out kq1 hmq⟩ | exact ⟨alloc_cell c3, alloc_cell cq0, alloc_cell cq1⟩ | exact ⟨alloc_cell b3, alloc_cell bq0, alloc_cell bq1⟩)
      ((first | (refine step_app _ (by rfl) _ _ (by rfl) B v0 n0 xs0 (by rfl) HOA.out w4.heap.size (.pointer (some ⟨d0, 0, none⟩)) (by rfl) HNA.out rfl (by omega) HTA.out.low.2.2.2.2.2 wA.heap.size rfl ?_; intro g5 cap5 w5 hown5 hgr5 hat5 hc5; obtain ⟨hT5, hl5⟩ := HTA.out.app_loose HOA.out HNN.out (by omega) hown5 hgr5 hat5 hc5; have hb5 : Below B w w5 := bA.grown hgr5 HTA.out.low.2.2.2.2.2 (fun i hi => (HOA.out.lt i hi).1); have HK5 : Hid (Kp w w5) := HKA.out.trans (Kp.calm hc5 (by decide) (by decide)); have HLX : Hid (∀ x ∈ es.toList, Loose w5 B (L + 1) (Value.ownBlock (.slice (some ⟨g2, 0, none⟩) (k + 1) cap2)) x.val) := (fun x hx => (CA.out _ (HM4.out x hx)).calm hc5); have hqq := HQA.out; have hmm := HMA.out; have hoo := HOA.out; have HT5 := Lib.hid hT5; have HL5 := Lib.hid hl5; have k3 : w5.cell? ⟨t, 3, none⟩ = some (.map (some mm)) := (by rw [cell_of_row w5 t 3 _ 76 _ hT5.head]; rfl); have kq := QC _ hqq hc5; have kq0 : w5.cell? ⟨w2.heap.size + 1, 0, none⟩ = some (.int .u8 1) := (by rw [cell_of_row w5 _ 0 _ 48 _ kq]; rfl); have kq1 : w5.cell? ⟨w2.heap.size + 1, 1, none⟩ = some (.int .u32 (clOf d.pc)) := (by rw [cell_of_row w5 _ 1 _ 48 _ kq]; rfl); obtain ⟨es2, cl2, hF2, hs2, hw2, hR2⟩ := hst (.slice (some ⟨g5, 0, none⟩) (n0 + 1) cap5); have hm5 : w5.heap[mm]? = some (.map es1 cl1) := (by rw [hgr5.block mm (lt_of_heap hmm) (by intro e; rcases hoo.2 with ⟨rfl, -⟩ | ⟨g', cap', cur, rfl, b1, b2, -⟩ <;> simp [Value.ownBlock] at e; subst e; rw [hmm] at b2; cases b2)]; exact hmm); have hR : (Instr.entryStore 72 (.map (some mm)) (.int .i64 (st : Int)) (.slice (some ⟨g5, 0, none⟩) (n0 + 1) cap5)).run Try.prog w5 = .ok () (setBlock w5 mm (.map es2 cl2)) := hR2 w5 hm5; have HM5 := Lib.hid hm5; have HF2 := Lib.hid hF2; have HW2 := Lib.hid hw2; clear hm5 hR2 hT5 hl5 hown5 hgr5 hat5 hc5 kq hqq hmm hoo) | (refine step_app _ (by rfl) _ _ (by rfl) B v0 n0 xs0 (by rfl) (HOB.out.alloc _) wB.heap.size (.pointer (some ⟨d0, 0, none⟩)) (by rfl) (heap_alloc_new wB _) rfl (by omega) (Nat.le_trans HTB.out.low.2.2.2.2.2 (baB _).size) (wB.heap.size + 1) (by simp) ?_; intro g5 cap5 w5 hown5 hgr5 hat5 hc5; obtain ⟨hT5, hl5⟩ := (HTB.out.below (baB _)).app_loose (HOB.out.alloc _) HNN.out (by omega) hown5 hgr5 (by simpa using hat5) hc5; have hb5 : Below B w w5 := (bB.trans ((baB _).mono HTB.out.low.2.2.2.2.2)).grown hgr5 (Nat.le_trans HTB.out.low.2.2.2.2.2 (baB _).size) (fun i hi => (HOB.out.lt i hi).1); have HK5 : Hid (Kp w w5) := (HKB.out.trans (Kp.below (baB _))).trans (Kp.calm hc5 (by decide) (by decide)); have HLX : Hid (∀ x ∈ es.toList, Loose w5 B (L + 1) (Value.ownBlock (.slice (some ⟨g2, 0, none⟩) (k + 1) cap2)) x.val) := (fun x hx => ((CB.out _ (HM4.out x hx)).calm (Calm.of_below (T := 0) (baB _))).calm hc5); have hqq := (HQB.out.symm.trans ((baB (.cells #[.pointer (some ⟨d0, 0, none⟩)] 35)).block _ (lt_of_heap HQB.out)).symm).symm; have hmm := HNB.out (.cells #[.pointer (some ⟨d0, 0, none⟩)] 35); have hoo := HOB.out.alloc (.cells #[.pointer (some ⟨d0, 0, none⟩)] 35); have HT5 := Lib.hid hT5; have HL5 := Lib.hid hl5; have k3 : w5.cell? ⟨t, 3, none⟩ = some (.map (some mm)) := (by rw [cell_of_row w5 t 3 _ 76 _ hT5.head]; rfl); have kq := QC _ hqq hc5; have kq0 : w5.cell? ⟨w2.heap.size + 1, 0, none⟩ = some (.int .u8 1) := (by rw [cell_of_row w5 _ 0 _ 48 _ kq]; rfl); have kq1 : w5.cell? ⟨w2.heap.size + 1, 1, none⟩ = some (.int .u32 (clOf d.pc)) := (by rw [cell_of_row w5 _ 1 _ 48 _ kq]; rfl); obtain ⟨es2, cl2, hF2, hs2, hw2, hR2⟩ := hst (.slice (some ⟨g5, 0, none⟩) (n0 + 1) cap5); have hm5 : w5.heap[mm]? = some (.map es1 cl1) := (by rw [hgr5.block mm (lt_of_heap hmm) (by intro e; rcases hoo.2 with ⟨rfl, -⟩ | ⟨g', cap', cur, rfl, b1, b2, -⟩ <;> simp [Value.ownBlock] at e; subst e; rw [hmm] at b2; cases b2)]; exact hmm); have hR : (Instr.entryStore 72 (.map (some mm)) (.int .i64 (st : Int)) (.slice (some ⟨g5, 0, none⟩) (n0 + 1) cap5)).run Try.prog w5 = .ok () (setBlock w5 mm (.map es2 cl2)) := hR2 w5 hm5; have HM5 := Lib.hid hm5; have HF2 := Lib.hid hF2; have HW2 := Lib.hid hw2; clear hm5 hR2 hT5 hl5 hown5 hgr5 hat5 hc5 kq hqq hmm hoo)))
    all_goals
      have hTl := (HT5.out.mono (L' := L + 3) (by omega)).store_mem (es' := es2) (cl' := cl2) (by omega) HF2.out (fun x hx => by
        rcases HW2.out x hx with e | e | h
        · rw [e]; exact HL5.out
        · rw [e]; exact loose_nil _ _ _ _
        · exact (HLX.out x h).mono (by omega))
      have gF : w5.grownBy (setBlock w5 mm (.map es2 cl2)) (some mm) := ⟨rfl, rfl, rfl, by simp [setBlock], fun i _ hi => heap_setBlock_other HM5.out _ (fun e => hi (by rw [e]))⟩
      have hbl : Below B w (setBlock w5 mm (.map es2 cl2)) := hb5.grown gF HT5.out.low.2.2.2.2.2 (fun i hi => by cases hi; exact HT5.out.low.2.2.1)
      have hkl : Kp w (setBlock w5 mm (.map es2 cl2)) := HK5.out.trans (Kp.calm (T := 0) (Calm.of_map HM5.out gF) (by decide) (by decide))
      generalize hwl : setBlock w5 mm (.map es2 cl2) = wl at hTl hbl hkl
      obtain ⟨-, -, x4⟩ := PX.out wl (HB.out.trans hbl)
      have e2 := EX.out wl hkl
      clear hwl gF hR c3 cq0 cq1 a3 aq0 aq1 b3 bq0 bq1 k3 kq0 kq1 hEA hEB hst QC baB HQA HQB HNA HMA HNB HLX CA CB HM5 HF2 HW2
      go_wp2
      go_loopw [67] (fun i wr => ∃ j : Nat, j ≤ d.rn ∧ i = .int .i64 j ∧ Hid (TabAt wr B t c dm mm vb ub nl (L + 3 + j) (.slice (some ⟨g2, 0, none⟩) (k + 1) cap2) (k + 1) dst D1) ∧ Below B w wr ∧ Hid (Kp w wr)) (fun i _ => d.rn - (intOf i).toNat)
      case atStart => exact ⟨0, Nat.zero_le _, rfl, hTl.mono (by omega), hbl, hkl⟩
      case round =>
        obtain ⟨j, hj, rfl, HTr, hbr, HKr⟩ := hrel
        obtain ⟨wo, rfl⟩ : ∃ wo : World, wo = wr := ⟨_, rfl⟩
        by_cases hlt : j < d.rn
        · obtain ⟨rb, rfl, -, hcs⟩ := HRA.out.resolve_left (by omega)
          obtain ⟨lk, idx, cost, z1, z2, z3, -, hidx⟩ := hcs j hlt
          have BR := Lib.hid (HB.out.trans hbr)
          have y1 := below_cells BR.out hw0 _ _ z1
          have y2 := below_cells BR.out hw0 _ _ z2
          have y3 := below_cells BR.out hw0 _ _ z3
          have Z3 := Lib.hid z3
          clear hcs z1 z2 z3
          obtain ⟨vs, v1, v2, v3⟩ := HTr.out.via
          have hil : idx < vs.size := by omega
          obtain ⟨n0, xs0, hn0, hv0, hne0⟩ := v3 idx vs[idx] (Array.getElem?_eq_getElem hil)
          have cv : wo.cell? ⟨vb, idx, none⟩ = some vs[idx] := by rw [cell_of_row wo vb idx _ 33 _ v1]; exact Array.getElem?_eq_getElem hil
          generalize vs[idx] = v0 at hv0 hne0 cv
          have HV := Lib.hid v1
          have HO := Lib.hid hv0
          have HN := Lib.hid hne0
          clear v1 v2 v3 hil hv0 hne0
          have t4 : wo.cell? ⟨t, 4, none⟩ = some (.slice (some ⟨vb, 0, none⟩) nl nl) := by rw [cell_of_row wo t 4 _ 76 _ HTr.out.head]; rfl
          have hvl : vb < wo.heap.size := lt_of_heap HV.out
          have hlw : B ≤ wo.heap.size := HTr.out.low.2.2.2.2.2
          have i1 : (0 : Int) ≤ (idx : Int) := by omega
          have i2 : (idx : Int) < (nl : Int) := by omega
          go_wp2
          generalize hwq : wo.alloc (.cells #[.pointer (some ⟨lk, 0, none⟩), .int .i64 cost] 63) = wq
          have hoq : Below wo.heap.size wo wq := by rw [← hwq]; exact (Below.refl _ _).alloc (Nat.le_refl _) _
          have R63 : Hid (wq.heap[wo.heap.size]? = some (.cells #[.pointer (some ⟨lk, 0, none⟩), .int .i64 cost] 63 (0, 0))) := by rw [← hwq]; exact heap_alloc_new wo _
          clear hwq
          have r0 : wq.cell? ⟨wo.heap.size, 0, none⟩ = some (.pointer (some ⟨lk, 0, none⟩)) := by rw [cell_of_row wq _ 0 _ 63 _ R63.out]; rfl
          have s4 := below_cells hoq (Nat.le_refl _) _ _ t4
          have s3 := below_cells hoq (Nat.le_refl _) _ _ y3
          have sv := below_cells hoq (Nat.le_refl _) _ _ cv
          have HTq := Lib.hid (HTr.out.below hoq)
          have HOq := Lib.hid (own_stay HO.out hoq)
          have hvq : vb < wq.heap.size := Nat.lt_of_lt_of_le hvl hoq.size
          have hlq : B ≤ wq.heap.size := Nat.le_trans hlw hoq.size
          have hbq : Below B w wq := hbr.trans (hoq.mono hlw)
          have HKq : Hid (Kp w wq) := HKr.out.trans (Kp.below hoq)
          have baq : ∀ o, Below wq.heap.size wq (wq.alloc o).drew := fun o => ((Below.refl _ _).alloc (Nat.le_refl _) o).drew
          clear y1 y2 y3 cv t4
          refine wp_region_noPanic ?_
          refine wp_region_held_drew (S := (fun w' => w'.cell? ⟨t, 4, none⟩ = some (.slice (some ⟨vb, 0, none⟩) nl nl) ∧ w'.cell? ⟨wo.heap.size, 0, none⟩ = some (.pointer (some ⟨lk, 0, none⟩)) ∧ w'.cell? ⟨lk, 3, none⟩ = some (.int .i64 idx))) (by kernel_rfl) ⟨s4, r0, s3⟩ (fun hHeld => ?_)
          refine wpAnyH_take (i := 0) (v := ?_) (by simp only [List.getElem?_toArray, List.getElem?_cons_zero, List.getElem?_cons_succ]; exact rfl) (by kernel_rfl) (by kernel_rfl) (by kernel_rfl) (fun _ _ _ h => h) (Or.inl ⟨by rfl, ?_⟩) hHeld ?_
          rotate_left 1
          · intro w' hSw
            try dsimp only at hSw
            go_simp
            try with_reducible rfl
          try simp only [Act.put, List.setIfInBounds_toArray, List.set_cons_zero, List.set_cons_succ]
          refine wpAnyH_take (i := 1) (v := ?_) (by simp only [List.getElem?_toArray, List.getElem?_cons_zero, List.getElem?_cons_succ]; exact rfl) (by kernel_rfl) (by kernel_rfl) (by kernel_rfl) (fun _ _ _ h => h) (Or.inl ⟨by rfl, ?_⟩) hHeld ?_
          rotate_left 1
          · intro w' hSw
            try dsimp only at hSw
            go_simp
            try with_reducible rfl
          try simp only [Act.put, List.setIfInBounds_toArray, List.set_cons_zero, List.set_cons_succ]
          refine wpAnyH_take (i := 2) (v := ?_) (by simp only [List.getElem?_toArray, List.getElem?_cons_zero, List.getElem?_cons_succ]; exact rfl) (by kernel_rfl) (by kernel_rfl) (by kernel_rfl) (fun _ _ _ h => h) (Or.inl ⟨by rfl, ?_⟩) hHeld ?_
          rotate_left 1
          · intro w' hSw
            try dsimp only at hSw
            go_simp
            try with_reducible rfl
          try simp only [Act.put, List.setIfInBounds_toArray, List.set_cons_zero, List.set_cons_succ]
          refine wpAnyH_take (i := 3) (v := ?_) (by simp only [List.getElem?_toArray, List.getElem?_cons_zero, List.getElem?_cons_succ]; exact rfl) (by kernel_rfl) (by kernel_rfl) (by kernel_rfl) (fun _ _ _ h => h) (Or.inl ⟨by rfl, ?_⟩) hHeld ?_
          rotate_left 1
          · intro w' hSw
            try dsimp only at hSw
            go_simp
            try with_reducible rfl
          try simp only [Act.put, List.setIfInBounds_toArray, List.set_cons_zero, List.set_cons_succ]
          refine wpAnyH_take (i := 4) (v := ?_) (by simp only [List.getElem?_toArray, List.getElem?_cons_zero, List.getElem?_cons_succ]; exact rfl) (by kernel_rfl) (by kernel_rfl) (by kernel_rfl) (fun _ _ _ h => h) (Or.inl ⟨by rfl, ?_⟩) hHeld ?_
          rotate_left 1
          · intro w' hSw
            try dsimp only at hSw
            go_simp
            try with_reducible rfl
          try simp only [Act.put, List.setIfInBounds_toArray, List.set_cons_zero, List.set_cons_succ]
          refine wpAnyH_take (i := 5) (v := ?_) (by simp only [List.getElem?_toArray, List.getElem?_cons_zero, List.getElem?_cons_succ]; exact rfl) (by kernel_rfl) (by kernel_rfl) (by kernel_rfl) (fun _ _ _ h => h) (Or.inl ⟨by rfl, ?_⟩) hHeld ?_
          rotate_left 1
          · intro w' hSw
            try dsimp only at hSw
            go_simp
            try with_reducible rfl
          try simp only [Act.put, List.setIfInBounds_toArray, List.set_cons_zero, List.set_cons_succ]
          refine wpAnyH_take (i := 6) (v := ?_) (by simp only [List.getElem?_toArray, List.getElem?_cons_zero, List.getElem?_cons_succ]; exact rfl) (by kernel_rfl) (by kernel_rfl) (by kernel_rfl) (fun _ _ _ h => h) (Or.inl ⟨by rfl, ?_⟩) hHeld ?_
          rotate_left 1
          · intro w' hSw
            try dsimp only at hSw
            go_simp
            try with_reducible rfl
          try simp only [Act.put, List.setIfInBounds_toArray, List.set_cons_zero, List.set_cons_succ]
          refine wpAnyH_take (i := 7) (v := ?_) (by simp only [List.getElem?_toArray, List.getElem?_cons_zero, List.getElem?_cons_succ]; exact rfl) (by kernel_rfl) (by kernel_rfl) (by kernel_rfl) (fun _ _ _ h => h) (Or.inl ⟨by rfl, ?_⟩) hHeld ?_
          rotate_left 1
          · intro w' hSw
            try dsimp only at hSw
            go_simp
            try with_reducible rfl
          try simp only [Act.put, List.setIfInBounds_toArray, List.set_cons_zero, List.set_cons_succ]
          refine wpAnyH_take (i := 8) (v := ?_) (by simp only [List.getElem?_toArray, List.getElem?_cons_zero, List.getElem?_cons_succ]; exact rfl) (by kernel_rfl) (by kernel_rfl) (by kernel_rfl) (fun _ _ _ h => h) (Or.inl ⟨by rfl, ?_⟩) hHeld ?_
          rotate_left 1
          · intro w' hSw
            try dsimp only at hSw
            go_simp
            try with_reducible rfl
          try simp only [Act.put, List.setIfInBounds_toArray, List.set_cons_zero, List.set_cons_succ]
          refine wpAnyH_take (i := 9) (v := ?_) (by simp only [List.getElem?_toArray, List.getElem?_cons_zero, List.getElem?_cons_succ]; exact rfl) (by kernel_rfl) (by kernel_rfl) (by kernel_rfl) (fun _ _ _ h => h) (Or.inl ⟨by rfl, ?_⟩) hHeld ?_
          rotate_left 1
          · intro w' hSw
            try dsimp only at hSw
            go_simp
            try with_reducible rfl
          try simp only [Act.put, List.setIfInBounds_toArray, List.set_cons_zero, List.set_cons_succ]
          refine wpAnyH_take (i := 10) (v := ?_) (by simp only [List.getElem?_toArray, List.getElem?_cons_zero, List.getElem?_cons_succ]; exact rfl) (by kernel_rfl) (by kernel_rfl) (by kernel_rfl) (fun _ _ _ h => h) (Or.inl ⟨by rfl, ?_⟩) hHeld ?_
          rotate_left 1
          · intro w' hSw
            try dsimp only at hSw
            go_simp
            try with_reducible rfl
          try simp only [Act.put, List.setIfInBounds_toArray, List.set_cons_zero, List.set_cons_succ]
          refine wpAnyH_take (i := 11) (v := ?_) (by simp only [List.getElem?_toArray, List.getElem?_cons_zero, List.getElem?_cons_succ]; exact rfl) (by kernel_rfl) (by kernel_rfl) (by kernel_rfl) (fun _ _ _ h => h) (Or.inl ⟨by rfl, ?_⟩) hHeld ?_
          rotate_left 1
          · intro w' hSw
            try dsimp only at hSw
            go_simp
            try with_reducible rfl
          try simp only [Act.put, List.setIfInBounds_toArray, List.set_cons_zero, List.set_cons_succ]
          refine wpAnyH_take (i := 12) (v := ?_) (by simp only [List.getElem?_toArray, List.getElem?_cons_zero, List.getElem?_cons_succ]; exact rfl) (by kernel_rfl) (by kernel_rfl) (by kernel_rfl) (fun _ _ _ h => h) (Or.inl ⟨by rfl, ?_⟩) hHeld ?_
          rotate_left 1
          · intro w' hSw
            try dsimp only at hSw
            go_simp
            try with_reducible rfl
          try simp only [Act.put, List.setIfInBounds_toArray, List.set_cons_zero, List.set_cons_succ]
          refine wpAnyH_take (i := 13) (v := ?_) (by simp only [List.getElem?_toArray, List.getElem?_cons_zero, List.getElem?_cons_succ]; exact rfl) (by kernel_rfl) (by kernel_rfl) (by kernel_rfl) (fun _ _ _ h => h) (Or.inl ⟨by rfl, ?_⟩) hHeld ?_
          rotate_left 1
          · intro w' hSw
            try dsimp only at hSw
            go_simp
            try with_reducible rfl
          try simp only [Act.put, List.setIfInBounds_toArray, List.set_cons_zero, List.set_cons_succ]
          refine wpAnyH_take (i := 14) (v := ?_) (by simp only [List.getElem?_toArray, List.getElem?_cons_zero, List.getElem?_cons_succ]; exact rfl) (by kernel_rfl) (by kernel_rfl) (by kernel_rfl) (fun _ _ _ h => h) (Or.inl ⟨by rfl, ?_⟩) hHeld ?_
          rotate_left 1
          · intro w' hSw
            try dsimp only at hSw
            go_simp
            try with_reducible rfl
          try simp only [Act.put, List.setIfInBounds_toArray, List.set_cons_zero, List.set_cons_succ]
          refine wpAnyH_take (i := 15) (v := ?_) (by simp only [List.getElem?_toArray, List.getElem?_cons_zero, List.getElem?_cons_succ]; exact rfl) (by kernel_rfl) (by kernel_rfl) (by kernel_rfl) (fun _ _ _ h => h) (Or.inl ⟨by rfl, ?_⟩) hHeld ?_
          rotate_left 1
          · intro w' hSw
            try dsimp only at hSw
            go_simp
            try with_reducible rfl
          try simp only [Act.put, List.setIfInBounds_toArray, List.set_cons_zero, List.set_cons_succ]
          refine wpAnyH_take (i := 16) (v := ?_) (by simp only [List.getElem?_toArray, List.getElem?_cons_zero, List.getElem?_cons_succ]; exact rfl) (by kernel_rfl) (by kernel_rfl) (by kernel_rfl) (fun _ _ _ h => h) (Or.inl ⟨by rfl, ?_⟩) hHeld ?_
          rotate_left 1
          · intro w' hSw
            try dsimp only at hSw
            go_simp
            try with_reducible rfl
          try simp only [Act.put, List.setIfInBounds_toArray, List.set_cons_zero, List.set_cons_succ]
          refine wpAnyH_take (i := 17) (v := ?_) (by simp only [List.getElem?_toArray, List.getElem?_cons_zero, List.getElem?_cons_succ]; exact rfl) (by kernel_rfl) (by kernel_rfl) (by kernel_rfl) (fun _ _ _ h => h) (Or.inl ⟨by rfl, ?_⟩) hHeld ?_
          rotate_left 1
          · intro w' hSw
            try dsimp only at hSw
            go_simp
            try with_reducible rfl
          try simp only [Act.put, List.setIfInBounds_toArray, List.set_cons_zero, List.set_cons_succ]
          refine wpAnyH_take (i := 18) (v := ?_) (by simp only [List.getElem?_toArray, List.getElem?_cons_zero, List.getElem?_cons_succ]; exact rfl) (by kernel_rfl) (by kernel_rfl) (by kernel_rfl) (fun _ _ _ h => h) (Or.inl ⟨by rfl, ?_⟩) hHeld ?_
          rotate_left 1
          · intro w' hSw
            try dsimp only at hSw
            go_simp
            try with_reducible rfl
          try simp only [Act.put, List.setIfInBounds_toArray, List.set_cons_zero, List.set_cons_succ]
          refine wpAnyH_take (i := 20) (v := ?_) (by simp only [List.getElem?_toArray, List.getElem?_cons_zero, List.getElem?_cons_succ]; exact rfl) (by kernel_rfl) (by kernel_rfl) (by kernel_rfl) (fun _ _ _ h => h) (Or.inl ⟨by rfl, ?_⟩) hHeld ?_
          rotate_left 1
          · intro w' hSw
            try dsimp only at hSw
            go_simp
            try with_reducible rfl
          try simp only [Act.put, List.setIfInBounds_toArray, List.set_cons_zero, List.set_cons_succ]
          refine wpAnyH_ready (rs := [19, 21]) (by kernel_rfl) (by simp) ?_
          refine AllReadyH.cons (by simp only [List.getElem?_toArray, List.getElem?_cons_zero, List.getElem?_cons_succ]; exact rfl) (fun K hK => ?_) ?_
          rotate_left 1
          · refine AllReadyH.cons (by simp only [List.getElem?_toArray, List.getElem?_cons_zero, List.getElem?_cons_succ]; exact rfl) (fun K hK => ?_) AllReadyH.nil
            go_simp
            refine hK.out _ _ (⟨alloc_cell s4, alloc_cell r0, alloc_cell s3⟩) (fun hHeld => ?_)
            clear hK K
            try simp only [Act.put, List.setIfInBounds_toArray, List.set_cons_zero, List.set_cons_succ]
            refine wpAnyH_ready (rs := [19]) (by kernel_rfl) (by simp) ?_
            refine AllReadyH.cons (by simp only [List.getElem?_toArray, List.getElem?_cons_zero, List.getElem?_cons_succ]; exact rfl) (fun K hK => ?_) ?_
            rotate_left 1
            · exact AllReadyH.nil
            go_simp
            refine hK.out _ _ (⟨alloc_cell s4, alloc_cell r0, alloc_cell s3⟩) (fun hHeld => ?_)
            clear hK K
            try simp only [Act.put, List.setIfInBounds_toArray, List.set_cons_zero, List.set_cons_succ]
            refine wpAnyH_ready (rs := [22]) (by kernel_rfl) (by simp) ?_
            refine AllReadyH.cons (by simp only [List.getElem?_toArray, List.getElem?_cons_zero, List.getElem?_cons_succ]; exact rfl) (fun K hK => ?_) ?_
            rotate_left 1
            · exact AllReadyH.nil
            refine step_app _ (by rfl) _ _ (by rfl) B v0 n0 xs0 (by rfl) ((HOq.out.alloc _).drew) wq.heap.size (.pointer (some ⟨d0, 0, none⟩)) (by rfl) (heap_alloc_new wq _) rfl (by omega) (Nat.le_trans hlq (baq _).size) (wq.heap.size + 1) (by simp) ?_; intro g3 cap3 w3 hown3 hgr3 hat3 hc3; obtain ⟨hT3, hl3⟩ := (HTq.out.below (baq _)).app_loose ((HOq.out.alloc _).drew) HN.out hn0 hown3 hgr3 (by simpa using hat3) hc3; have HT3 := Lib.hid hT3; have HL3 := Lib.hid hl3; have hb3 : Below B w w3 := hbq.trans (((baq _).mono hlq).grown hgr3 (Nat.le_trans hlq (baq _).size) (fun i hi => (HOq.out.lt i hi).1)); have HK3 : Hid (Kp w w3) := (HKq.out.trans (Kp.below (baq _))).trans (Kp.calm hc3 (by decide) (by decide)); have k1 : w3.cell? ⟨t, 4, none⟩ = some (.slice (some ⟨vb, 0, none⟩) nl nl) := (by rw [cell_of_row w3 t 4 _ 76 _ hT3.head]; rfl); have k2 : w3.cell? ⟨wo.heap.size, 0, none⟩ = some (.pointer (some ⟨lk, 0, none⟩)) := (by obtain ⟨cu, a1, -, a3⟩ := hc3 _ _ 63 (0, 0) (by rw [(baq _).block _ (lt_of_heap R63.out)]; exact R63.out); rw [cell_of_row w3 _ 0 _ 63 _ a1, a3 (by decide)]; rfl); have k3 := below_cells (HB.out.trans hb3) hw0 _ _ Z3.out; have hv3 : ∃ vs', w3.heap[vb]? = some (.cells vs' 33 (0, 0)) := (by obtain ⟨vs', a1, -⟩ := hT3.via; exact ⟨vs', a1⟩); have nvt : t ≠ vb := (by intro e; obtain ⟨vs', a1⟩ := hv3; rw [← e, hT3.head] at a1; cases a1); have nvr : wo.heap.size ≠ vb := (by omega); have nvl : lk ≠ vb := (by have := hT3.low.2.2.2.1; have := World.block_lt_of_cell? w0 _ Z3.out; simp at this; omega); have k4 : w3.cell? ⟨vb, idx, none⟩ = some v0 := hgr3.cell (alloc_cell sv) (by obtain ⟨vs', a1⟩ := hv3; intro e; rcases HOq.out.2 with ⟨rfl, -⟩ | ⟨g', cap', cur, rfl, b1, b2, -⟩ <;> simp [Value.ownBlock] at e; subst e; obtain ⟨cu, c1, -, c3⟩ := hc3 _ _ 35 (0, 0) (by rw [(baq _).block _ (lt_of_heap b2)]; exact b2); rw [a1] at c1; cases c1); have k5 : w3.frozen? ⟨vb, idx, none⟩ = false := (by obtain ⟨vs', a1⟩ := hv3; exact frozen_of_row w3 vb idx _ 33 a1); clear hT3 hl3 hgr3 hown3 hat3 hc3 hv3
            refine hK.out _ _ (⟨k1, k2, k3⟩) (fun hHeld => ?_)
            clear hK K
            try simp only [Act.put, List.setIfInBounds_toArray, List.set_cons_zero, List.set_cons_succ]
            refine wpAnyH_take (i := 23) (v := ?_) (by simp only [List.getElem?_toArray, List.getElem?_cons_zero, List.getElem?_cons_succ]; exact rfl) (by kernel_rfl) (by kernel_rfl) (by kernel_rfl) (fun _ _ _ h => h) (Or.inl ⟨by rfl, ?_⟩) hHeld ?_
            rotate_left 1
            · intro w' hSw
              try dsimp only at hSw
              go_simp
              try with_reducible rfl
            try simp only [Act.put, List.setIfInBounds_toArray, List.set_cons_zero, List.set_cons_succ]
            refine wpAnyH_ready (rs := [24]) (by kernel_rfl) (by simp) ?_
            refine AllReadyH.cons (by simp only [List.getElem?_toArray, List.getElem?_cons_zero, List.getElem?_cons_succ]; exact rfl) (fun K hK => ?_) ?_
            rotate_left 1
            · exact AllReadyH.nil
            go_simp
            refine hK.out _ _ (⟨set_cell1 k1 nvt, set_cell1 k2 nvr, set_cell1 k3 nvl⟩) (fun hHeld => ?_)
            clear hK K
            try simp only [Act.put, List.setIfInBounds_toArray, List.set_cons_zero, List.set_cons_succ]
            refine wpAnyH_done (by kernel_rfl) ?_ _
            refine NoPanic.normal ?_
            have HTf := Lib.hid (HT3.out.mono (Nat.le_succ _) |>.set_via HL3.out idx)
            have hbf : Below B w (w3.setCell ⟨vb, idx, none⟩ (.slice (some ⟨g3, 0, none⟩) (n0 + 1) cap3)) := hb3.setCell HT3.out.low.2.2.2.1 _
            have HKf : Hid (Kp w (w3.setCell ⟨vb, idx, none⟩ (.slice (some ⟨g3, 0, none⟩) (n0 + 1) cap3))) := by
              obtain ⟨vs', a1, -⟩ := HT3.out.via
              exact HK3.out.trans (Kp.calm (Calm.set a1) (by decide) (by decide))
            go_wp2
            go_roundw
            case rel => exact ⟨j + 1, by omega, by go_num, HTf, hbf, HKf⟩
            case measure => simp [intOf]; omega
          go_simp
          refine hK.out _ _ (⟨s4, r0, s3⟩) (fun hHeld => ?_)
          clear hK K
          try simp only [Act.put, List.setIfInBounds_toArray, List.set_cons_zero, List.set_cons_succ]
          refine wpAnyH_ready (rs := [21]) (by kernel_rfl) (by simp) ?_
          refine AllReadyH.cons (by simp only [List.getElem?_toArray, List.getElem?_cons_zero, List.getElem?_cons_succ]; exact rfl) (fun K hK => ?_) ?_
          rotate_left 1
          · exact AllReadyH.nil
          go_simp
          refine hK.out _ _ (⟨alloc_cell s4, alloc_cell r0, alloc_cell s3⟩) (fun hHeld => ?_)
          clear hK K
          try simp only [Act.put, List.setIfInBounds_toArray, List.set_cons_zero, List.set_cons_succ]
          refine wpAnyH_ready (rs := [22]) (by kernel_rfl) (by simp) ?_
          refine AllReadyH.cons (by simp only [List.getElem?_toArray, List.getElem?_cons_zero, List.getElem?_cons_succ]; exact rfl) (fun K hK => ?_) ?_
          rotate_left 1
          · exact AllReadyH.nil
          refine step_app _ (by rfl) _ _ (by rfl) B v0 n0 xs0 (by rfl) ((HOq.out.alloc _).drew) wq.heap.size (.pointer (some ⟨d0, 0, none⟩)) (by rfl) (heap_alloc_new wq _) rfl (by omega) (Nat.le_trans hlq (baq _).size) (wq.heap.size + 1) (by simp) ?_; intro g3 cap3 w3 hown3 hgr3 hat3 hc3; obtain ⟨hT3, hl3⟩ := (HTq.out.below (baq _)).app_loose ((HOq.out.alloc _).drew) HN.out hn0 hown3 hgr3 (by simpa using hat3) hc3; have HT3 := Lib.hid hT3; have HL3 := Lib.hid hl3; have hb3 : Below B w w3 := hbq.trans (((baq _).mono hlq).grown hgr3 (Nat.le_trans hlq (baq _).size) (fun i hi => (HOq.out.lt i hi).1)); have HK3 : Hid (Kp w w3) := (HKq.out.trans (Kp.below (baq _))).trans (Kp.calm hc3 (by decide) (by decide)); have k1 : w3.cell? ⟨t, 4, none⟩ = some (.slice (some ⟨vb, 0, none⟩) nl nl) := (by rw [cell_of_row w3 t 4 _ 76 _ hT3.head]; rfl); have k2 : w3.cell? ⟨wo.heap.size, 0, none⟩ = some (.pointer (some ⟨lk, 0, none⟩)) := (by obtain ⟨cu, a1, -, a3⟩ := hc3 _ _ 63 (0, 0) (by rw [(baq _).block _ (lt_of_heap R63.out)]; exact R63.out); rw [cell_of_row w3 _ 0 _ 63 _ a1, a3 (by decide)]; rfl); have k3 := below_cells (HB.out.trans hb3) hw0 _ _ Z3.out; have hv3 : ∃ vs', w3.heap[vb]? = some (.cells vs' 33 (0, 0)) := (by obtain ⟨vs', a1, -⟩ := hT3.via; exact ⟨vs', a1⟩); have nvt : t ≠ vb := (by intro e; obtain ⟨vs', a1⟩ := hv3; rw [← e, hT3.head] at a1; cases a1); have nvr : wo.heap.size ≠ vb := (by omega); have nvl : lk ≠ vb := (by have := hT3.low.2.2.2.1; have := World.block_lt_of_cell? w0 _ Z3.out; simp at this; omega); have k4 : w3.cell? ⟨vb, idx, none⟩ = some v0 := hgr3.cell (alloc_cell sv) (by obtain ⟨vs', a1⟩ := hv3; intro e; rcases HOq.out.2 with ⟨rfl, -⟩ | ⟨g', cap', cur, rfl, b1, b2, -⟩ <;> simp [Value.ownBlock] at e; subst e; obtain ⟨cu, c1, -, c3⟩ := hc3 _ _ 35 (0, 0) (by rw [(baq _).block _ (lt_of_heap b2)]; exact b2); rw [a1] at c1; cases c1); have k5 : w3.frozen? ⟨vb, idx, none⟩ = false := (by obtain ⟨vs', a1⟩ := hv3; exact frozen_of_row w3 vb idx _ 33 a1); clear hT3 hl3 hgr3 hown3 hat3 hc3 hv3
          refine hK.out _ _ (⟨k1, k2, k3⟩) (fun hHeld => ?_)
          clear hK K
          try simp only [Act.put, List.setIfInBounds_toArray, List.set_cons_zero, List.set_cons_succ]
          refine wpAnyH_take (i := 23) (v := ?_) (by simp only [List.getElem?_toArray, List.getElem?_cons_zero, List.getElem?_cons_succ]; exact rfl) (by kernel_rfl) (by kernel_rfl) (by kernel_rfl) (fun _ _ _ h => h) (Or.inl ⟨by rfl, ?_⟩) hHeld ?_
          rotate_left 1
          · intro w' hSw
            try dsimp only at hSw
            go_simp
            try with_reducible rfl
          try simp only [Act.put, List.setIfInBounds_toArray, List.set_cons_zero, List.set_cons_succ]
          refine wpAnyH_ready (rs := [24]) (by kernel_rfl) (by simp) ?_
          refine AllReadyH.cons (by simp only [List.getElem?_toArray, List.getElem?_cons_zero, List.getElem?_cons_succ]; exact rfl) (fun K hK => ?_) ?_
          rotate_left 1
          · exact AllReadyH.nil
          go_simp
          refine hK.out _ _ (⟨set_cell1 k1 nvt, set_cell1 k2 nvr, set_cell1 k3 nvl⟩) (fun hHeld => ?_)
          clear hK K
          try simp only [Act.put, List.setIfInBounds_toArray, List.set_cons_zero, List.set_cons_succ]
          refine wpAnyH_done (by kernel_rfl) ?_ _
          refine NoPanic.normal ?_
          have HTf := Lib.hid (HT3.out.mono (Nat.le_succ _) |>.set_via HL3.out idx)
          have hbf : Below B w (w3.setCell ⟨vb, idx, none⟩ (.slice (some ⟨g3, 0, none⟩) (n0 + 1) cap3)) := hb3.setCell HT3.out.low.2.2.2.1 _
          have HKf : Hid (Kp w (w3.setCell ⟨vb, idx, none⟩ (.slice (some ⟨g3, 0, none⟩) (n0 + 1) cap3))) := by
            obtain ⟨vs', a1, -⟩ := HT3.out.via
            exact HK3.out.trans (Kp.calm (Calm.set a1) (by decide) (by decide))
          go_wp2
          go_roundw
          case rel => exact ⟨j + 1, by omega, by go_num, HTf, hbf, HKf⟩
          case measure => simp [intOf]; omega
        · obtain rfl : d.rn = j := by omega
          go_wp2
          go_end0
          have hD2 := hD1.out
          subst hD2
          exact ⟨rfl, _, HTr.out, hbr, HKr.out⟩
  · have hkd : (d.kind == 0) = false := by simp [hk0]
    go_wp2_with (first | (at_builtin; go_loud (refine wpList_app _ (by rfl) _ _ (by rfl) B lv k _ (by rfl) (HT1.out.list.alloc (.cells #[.pointer (some ⟨d0, 0, none⟩)] 35)) w1.heap.size (.pointer (some ⟨d0, 0, none⟩)) (by rfl) (heap_alloc_new w1 _) rfl (by omega) (Nat.le_trans (Nat.le_trans hlow hs1) (ba1 _).size) (w1.heap.size + 1) (by simp) ?_; intro g2 cap2 w2 hown2 hgr2 hat2 hc2; have u1 := (hc2 t _ 76 (0, 0) (HT1.out.below (ba1 _)).head); have u2 : w2.cell? ⟨t, 2, none⟩ = some lv := (by obtain ⟨cu, u3, -, u5⟩ := u1; rw [cell_of_row w2 t 2 _ 76 _ u3, u5 (by decide)]; rfl); have u3 : w2.frozen? ⟨t, 2, none⟩ = false := (by obtain ⟨cu, u3, -, u5⟩ := u1; exact frozen_of_row w2 t 2 _ 76 u3); clear u1; have hk2 : Kp w w2 := (hk1.trans (Kp.below (ba1 _))).trans (Kp.calm hc2 (by decide) (by decide)); have hb2 : Below B w w2 := hb1.trans (((ba1 _).mono (Nat.le_trans hlow hs1)).grown hgr2 (Nat.le_trans (Nat.le_trans hlow hs1) (ba1 _).size) (fun i hi => (HT1.out.list.lt i hi).1)); obtain ⟨x0, x1, x4⟩ := PX.out w2 (HB.out.trans hb2); have e2 := EX.out w2 hk2)))
    have hT2 := (HT1.out.below (ba1 _)).app_list (g := g2) (cap := cap2) (by rw [hd0]; exact hown2) hgr2 (by simpa using hat2) hc2
    generalize hwl : w2.setCell ⟨t, 2, none⟩ (.slice (some ⟨g2, 0, none⟩) (k + 1) cap2) = wl at hT2
    have hTl := hT2
    have hbl : Below B w wl := by rw [← hwl]; exact hb2.setCell HT1.out.low.1 _
    have hkl : Kp w wl := by
      obtain ⟨cu, u4, -⟩ := hc2 t _ 76 (0, 0) (HT1.out.below (ba1 _)).head
      rw [← hwl]; exact hk2.trans (Kp.calm (Calm.set u4) (by decide) (by decide))
    clear hwl hT2 u2 u3 x0 x1 x4 e2 hown2 hgr2 hat2 hc2 t2
    go_loopw [67] (fun i wr => ∃ j : Nat, j ≤ d.rn ∧ i = .int .i64 j ∧ Hid (TabAt wr B t c dm mm vb ub nl (L + 3 + j) (.slice (some ⟨g2, 0, none⟩) (k + 1) cap2) (k + 1) dst D1) ∧ Below B w wr ∧ Hid (Kp w wr)) (fun i _ => d.rn - (intOf i).toNat)
    case atStart => exact ⟨0, Nat.zero_le _, rfl, hTl.mono (by omega), hbl, hkl⟩
    case round =>
      obtain ⟨j, hj, rfl, HTr, hbr, HKr⟩ := hrel
      obtain ⟨wo, rfl⟩ : ∃ wo : World, wo = wr := ⟨_, rfl⟩
      by_cases hlt : j < d.rn
      · obtain ⟨rb, rfl, -, hcs⟩ := HRA.out.resolve_left (by omega)
        obtain ⟨lk, idx, cost, z1, z2, z3, -, hidx⟩ := hcs j hlt
        have BR := Lib.hid (HB.out.trans hbr)
        have y1 := below_cells BR.out hw0 _ _ z1
        have y2 := below_cells BR.out hw0 _ _ z2
        have y3 := below_cells BR.out hw0 _ _ z3
        have Z3 := Lib.hid z3
        clear hcs z1 z2 z3
        obtain ⟨vs, v1, v2, v3⟩ := HTr.out.via
        have hil : idx < vs.size := by omega
        obtain ⟨n0, xs0, hn0, hv0, hne0⟩ := v3 idx vs[idx] (Array.getElem?_eq_getElem hil)
        have cv : wo.cell? ⟨vb, idx, none⟩ = some vs[idx] := by rw [cell_of_row wo vb idx _ 33 _ v1]; exact Array.getElem?_eq_getElem hil
        generalize vs[idx] = v0 at hv0 hne0 cv
        have HV := Lib.hid v1
        have HO := Lib.hid hv0
        have HN := Lib.hid hne0
        clear v1 v2 v3 hil hv0 hne0
        have t4 : wo.cell? ⟨t, 4, none⟩ = some (.slice (some ⟨vb, 0, none⟩) nl nl) := by rw [cell_of_row wo t 4 _ 76 _ HTr.out.head]; rfl
        have hvl : vb < wo.heap.size := lt_of_heap HV.out
        have hlw : B ≤ wo.heap.size := HTr.out.low.2.2.2.2.2
        have i1 : (0 : Int) ≤ (idx : Int) := by omega
        have i2 : (idx : Int) < (nl : Int) := by omega
        go_wp2
        generalize hwq : wo.alloc (.cells #[.pointer (some ⟨lk, 0, none⟩), .int .i64 cost] 63) = wq
        have hoq : Below wo.heap.size wo wq := by rw [← hwq]; exact (Below.refl _ _).alloc (Nat.le_refl _) _
        have R63 : Hid (wq.heap[wo.heap.size]? = some (.cells #[.pointer (some ⟨lk, 0, none⟩), .int .i64 cost] 63 (0, 0))) := by rw [← hwq]; exact heap_alloc_new wo _
        clear hwq
        have r0 : wq.cell? ⟨wo.heap.size, 0, none⟩ = some (.pointer (some ⟨lk, 0, none⟩)) := by rw [cell_of_row wq _ 0 _ 63 _ R63.out]; rfl
        have s4 := below_cells hoq (Nat.le_refl _) _ _ t4
        have s3 := below_cells hoq (Nat.le_refl _) _ _ y3
        have sv := below_cells hoq (Nat.le_refl _) _ _ cv
        have HTq := Lib.hid (HTr.out.below hoq)
        have HOq := Lib.hid (own_stay HO.out hoq)
        have hvq : vb < wq.heap.size := Nat.lt_of_lt_of_le hvl hoq.size
        have hlq : B ≤ wq.heap.size := Nat.le_trans hlw hoq.size
        have hbq : Below B w wq := hbr.trans (hoq.mono hlw)
        have HKq : Hid (Kp w wq) := HKr.out.trans (Kp.below hoq)
        have baq : ∀ o, Below wq.heap.size wq (wq.alloc o).drew := fun o => ((Below.refl _ _).alloc (Nat.le_refl _) o).drew
        clear y1 y2 y3 cv t4
        refine wp_region_noPanic ?_
        refine wp_region_held_drew (S := (fun w' => w'.cell? ⟨t, 4, none⟩ = some (.slice (some ⟨vb, 0, none⟩) nl nl) ∧ w'.cell? ⟨wo.heap.size, 0, none⟩ = some (.pointer (some ⟨lk, 0, none⟩)) ∧ w'.cell? ⟨lk, 3, none⟩ = some (.int .i64 idx))) (by kernel_rfl) ⟨s4, r0, s3⟩ (fun hHeld => ?_)
        refine wpAnyH_take (i := 0) (v := ?_) (by simp only [List.getElem?_toArray, List.getElem?_cons_zero, List.getElem?_cons_succ]; exact rfl) (by kernel_rfl) (by kernel_rfl) (by kernel_rfl) (fun _ _ _ h => h) (Or.inl ⟨by rfl, ?_⟩) hHeld ?_
        rotate_left 1
        · intro w' hSw
          try dsimp only at hSw
          go_simp
          try with_reducible rfl
        try simp only [Act.put, List.setIfInBounds_toArray, List.set_cons_zero, List.set_cons_succ]
        refine wpAnyH_take (i := 1) (v := ?_) (by simp only [List.getElem?_toArray, List.getElem?_cons_zero, List.getElem?_cons_succ]; exact rfl) (by kernel_rfl) (by kernel_rfl) (by kernel_rfl) (fun _ _ _ h => h) (Or.inl ⟨by rfl, ?_⟩) hHeld ?_
        rotate_left 1
        · intro w' hSw
          try dsimp only at hSw
          go_simp
          try with_reducible rfl
        try simp only [Act.put, List.setIfInBounds_toArray, List.set_cons_zero, List.set_cons_succ]
        refine wpAnyH_take (i := 2) (v := ?_) (by simp only [List.getElem?_toArray, List.getElem?_cons_zero, List.getElem?_cons_succ]; exact rfl) (by kernel_rfl) (by kernel_rfl) (by kernel_rfl) (fun _ _ _ h => h) (Or.inl ⟨by rfl, ?_⟩) hHeld ?_
        rotate_left 1
        · intro w' hSw
          try dsimp only at hSw
          go_simp
          try with_reducible rfl
        try simp only [Act.put, List.setIfInBounds_toArray, List.set_cons_zero, List.set_cons_succ]
        refine wpAnyH_take (i := 3) (v := ?_) (by simp only [List.getElem?_toArray, List.getElem?_cons_zero, List.getElem?_cons_succ]; exact rfl) (by kernel_rfl) (by kernel_rfl) (by kernel_rfl) (fun _ _ _ h => h) (Or.inl ⟨by rfl, ?_⟩) hHeld ?_
        rotate_left 1
        · intro w' hSw
          try dsimp only at hSw
          go_simp
          try with_reducible rfl
        try simp only [Act.put, List.setIfInBounds_toArray, List.set_cons_zero, List.set_cons_succ]
        refine wpAnyH_take (i := 4) (v := ?_) (by simp only [List.getElem?_toArray, List.getElem?_cons_zero, List.getElem?_cons_succ]; exact rfl) (by kernel_rfl) (by kernel_rfl) (by kernel_rfl) (fun _ _ _ h => h) (Or.inl ⟨by rfl, ?_⟩) hHeld ?_
        rotate_left 1
        · intro w' hSw
          try dsimp only at hSw
          go_simp
          try with_reducible rfl
        try simp only [Act.put, List.setIfInBounds_toArray, List.set_cons_zero, List.set_cons_succ]
        refine wpAnyH_take (i := 5) (v := ?_) (by simp only [List.getElem?_toArray, List.getElem?_cons_zero, List.getElem?_cons_succ]; exact rfl) (by kernel_rfl) (by kernel_rfl) (by kernel_rfl) (fun _ _ _ h => h) (Or.inl ⟨by rfl, ?_⟩) hHeld ?_
        rotate_left 1
        · intro w' hSw
          try dsimp only at hSw
          go_simp
          try with_reducible rfl
        try simp only [Act.put, List.setIfInBounds_toArray, List.set_cons_zero, List.set_cons_succ]
        refine wpAnyH_take (i := 6) (v := ?_) (by simp only [List.getElem?_toArray, List.getElem?_cons_zero, List.getElem?_cons_succ]; exact rfl) (by kernel_rfl) (by kernel_rfl) (by kernel_rfl) (fun _ _ _ h => h) (Or.inl ⟨by rfl, ?_⟩) hHeld ?_
        rotate_left 1
        · intro w' hSw
          try dsimp only at hSw
          go_simp
          try with_reducible rfl
        try simp only [Act.put, List.setIfInBounds_toArray, List.set_cons_zero, List.set_cons_succ]
        refine wpAnyH_take (i := 7) (v := ?_) (by simp only [List.getElem?_toArray, List.getElem?_cons_zero, List.getElem?_cons_succ]; exact rfl) (by kernel_rfl) (by kernel_rfl) (by kernel_rfl) (fun _ _ _ h => h) (Or.inl ⟨by rfl, ?_⟩) hHeld ?_
        rotate_left 1
        · intro w' hSw
          try dsimp only at hSw
          go_simp
          try with_reducible rfl
        try simp only [Act.put, List.setIfInBounds_toArray, List.set_cons_zero, List.set_cons_succ]
        refine wpAnyH_take (i := 8) (v := ?_) (by simp only [List.getElem?_toArray, List.getElem?_cons_zero, List.getElem?_cons_succ]; exact rfl) (by kernel_rfl) (by kernel_rfl) (by kernel_rfl) (fun _ _ _ h => h) (Or.inl ⟨by rfl, ?_⟩) hHeld ?_
        rotate_left 1
        · intro w' hSw
          try dsimp only at hSw
          go_simp
          try with_reducible rfl
        try simp only [Act.put, List.setIfInBounds_toArray, List.set_cons_zero, List.set_cons_succ]
        refine wpAnyH_take (i := 9) (v := ?_) (by simp only [List.getElem?_toArray, List.getElem?_cons_zero, List.getElem?_cons_succ]; exact rfl) (by kernel_rfl) (by kernel_rfl) (by kernel_rfl) (fun _ _ _ h => h) (Or.inl ⟨by rfl, ?_⟩) hHeld ?_
        rotate_left 1
        · intro w' hSw
          try dsimp only at hSw
          go_simp
          try with_reducible rfl
        try simp only [Act.put, List.setIfInBounds_toArray, List.set_cons_zero, List.set_cons_succ]
        refine wpAnyH_take (i := 10) (v := ?_) (by simp only [List.getElem?_toArray, List.getElem?_cons_zero, List.getElem?_cons_succ]; exact rfl) (by kernel_rfl) (by kernel_rfl) (by kernel_rfl) (fun _ _ _ h => h) (Or.inl ⟨by rfl, ?_⟩) hHeld ?_
        rotate_left 1
        · intro w' hSw
          try dsimp only at hSw
          go_simp
          try with_reducible rfl
        try simp only [Act.put, List.setIfInBounds_toArray, List.set_cons_zero, List.set_cons_succ]
        refine wpAnyH_take (i := 11) (v := ?_) (by simp only [List.getElem?_toArray, List.getElem?_cons_zero, List.getElem?_cons_succ]; exact rfl) (by kernel_rfl) (by kernel_rfl) (by kernel_rfl) (fun _ _ _ h => h) (Or.inl ⟨by rfl, ?_⟩) hHeld ?_
        rotate_left 1
        · intro w' hSw
          try dsimp only at hSw
          go_simp
          try with_reducible rfl
        try simp only [Act.put, List.setIfInBounds_toArray, List.set_cons_zero, List.set_cons_succ]
        refine wpAnyH_take (i := 12) (v := ?_) (by simp only [List.getElem?_toArray, List.getElem?_cons_zero, List.getElem?_cons_succ]; exact rfl) (by kernel_rfl) (by kernel_rfl) (by kernel_rfl) (fun _ _ _ h => h) (Or.inl ⟨by rfl, ?_⟩) hHeld ?_
        rotate_left 1
        · intro w' hSw
          try dsimp only at hSw
          go_simp
          try with_reducible rfl
        try simp only [Act.put, List.setIfInBounds_toArray, List.set_cons_zero, List.set_cons_succ]
        refine wpAnyH_take (i := 13) (v := ?_) (by simp only [List.getElem?_toArray, List.getElem?_cons_zero, List.getElem?_cons_succ]; exact rfl) (by kernel_rfl) (by kernel_rfl) (by kernel_rfl) (fun _ _ _ h => h) (Or.inl ⟨by rfl, ?_⟩) hHeld ?_
        rotate_left 1
        · intro w' hSw
          try dsimp only at hSw
          go_simp
          try with_reducible rfl
        try simp only [Act.put, List.setIfInBounds_toArray, List.set_cons_zero, List.set_cons_succ]
        refine wpAnyH_take (i := 14) (v := ?_) (by simp only [List.getElem?_toArray, List.getElem?_cons_zero, List.getElem?_cons_succ]; exact rfl) (by kernel_rfl) (by kernel_rfl) (by kernel_rfl) (fun _ _ _ h => h) (Or.inl ⟨by rfl, ?_⟩) hHeld ?_
        rotate_left 1
        · intro w' hSw
          try dsimp only at hSw
          go_simp
          try with_reducible rfl
        try simp only [Act.put, List.setIfInBounds_toArray, List.set_cons_zero, List.set_cons_succ]
        refine wpAnyH_take (i := 15) (v := ?_) (by simp only [List.getElem?_toArray, List.getElem?_cons_zero, List.getElem?_cons_succ]; exact rfl) (by kernel_rfl) (by kernel_rfl) (by kernel_rfl) (fun _ _ _ h => h) (Or.inl ⟨by rfl, ?_⟩) hHeld ?_
        rotate_left 1
        · intro w' hSw
          try dsimp only at hSw
          go_simp
          try with_reducible rfl
        try simp only [Act.put, List.setIfInBounds_toArray, List.set_cons_zero, List.set_cons_succ]
        refine wpAnyH_take (i := 16) (v := ?_) (by simp only [List.getElem?_toArray, List.getElem?_cons_zero, List.getElem?_cons_succ]; exact rfl) (by kernel_rfl) (by kernel_rfl) (by kernel_rfl) (fun _ _ _ h => h) (Or.inl ⟨by rfl, ?_⟩) hHeld ?_
        rotate_left 1
        · intro w' hSw
          try dsimp only at hSw
          go_simp
          try with_reducible rfl
        try simp only [Act.put, List.setIfInBounds_toArray, List.set_cons_zero, List.set_cons_succ]
        refine wpAnyH_take (i := 17) (v := ?_) (by simp only [List.getElem?_toArray, List.getElem?_cons_zero, List.getElem?_cons_succ]; exact rfl) (by kernel_rfl) (by kernel_rfl) (by kernel_rfl) (fun _ _ _ h => h) (Or.inl ⟨by rfl, ?_⟩) hHeld ?_
        rotate_left 1
        · intro w' hSw
          try dsimp only at hSw
          go_simp
          try with_reducible rfl
        try simp only [Act.put, List.setIfInBounds_toArray, List.set_cons_zero, List.set_cons_succ]
        refine wpAnyH_take (i := 18) (v := ?_) (by simp only [List.getElem?_toArray, List.getElem?_cons_zero, List.getElem?_cons_succ]; exact rfl) (by kernel_rfl) (by kernel_rfl) (by kernel_rfl) (fun _ _ _ h => h) (Or.inl ⟨by rfl, ?_⟩) hHeld ?_
        rotate_left 1
        · intro w' hSw
          try dsimp only at hSw
          go_simp
          try with_reducible rfl
        try simp only [Act.put, List.setIfInBounds_toArray, List.set_cons_zero, List.set_cons_succ]
        refine wpAnyH_take (i := 20) (v := ?_) (by simp only [List.getElem?_toArray, List.getElem?_cons_zero, List.getElem?_cons_succ]; exact rfl) (by kernel_rfl) (by kernel_rfl) (by kernel_rfl) (fun _ _ _ h => h) (Or.inl ⟨by rfl, ?_⟩) hHeld ?_
        rotate_left 1
        · intro w' hSw
          try dsimp only at hSw
          go_simp
          try with_reducible rfl
        try simp only [Act.put, List.setIfInBounds_toArray, List.set_cons_zero, List.set_cons_succ]
        refine wpAnyH_ready (rs := [19, 21]) (by kernel_rfl) (by simp) ?_
        refine AllReadyH.cons (by simp only [List.getElem?_toArray, List.getElem?_cons_zero, List.getElem?_cons_succ]; exact rfl) (fun K hK => ?_) ?_
        rotate_left 1
        · refine AllReadyH.cons (by simp only [List.getElem?_toArray, List.getElem?_cons_zero, List.getElem?_cons_succ]; exact rfl) (fun K hK => ?_) AllReadyH.nil
          go_simp
          refine hK.out _ _ (⟨alloc_cell s4, alloc_cell r0, alloc_cell s3⟩) (fun hHeld => ?_)
          clear hK K
          try simp only [Act.put, List.setIfInBounds_toArray, List.set_cons_zero, List.set_cons_succ]
          refine wpAnyH_ready (rs := [19]) (by kernel_rfl) (by simp) ?_
          refine AllReadyH.cons (by simp only [List.getElem?_toArray, List.getElem?_cons_zero, List.getElem?_cons_succ]; exact rfl) (fun K hK => ?_) ?_
          rotate_left 1
          · exact AllReadyH.nil
          go_simp
          refine hK.out _ _ (⟨alloc_cell s4, alloc_cell r0, alloc_cell s3⟩) (fun hHeld => ?_)
          clear hK K
          try simp only [Act.put, List.setIfInBounds_toArray, List.set_cons_zero, List.set_cons_succ]
          refine wpAnyH_ready (rs := [22]) (by kernel_rfl) (by simp) ?_
          refine AllReadyH.cons (by simp only [List.getElem?_toArray, List.getElem?_cons_zero, List.getElem?_cons_succ]; exact rfl) (fun K hK => ?_) ?_
          rotate_left 1
          · exact AllReadyH.nil
          refine step_app _ (by rfl) _ _ (by rfl) B v0 n0 xs0 (by rfl) ((HOq.out.alloc _).drew) wq.heap.size (.pointer (some ⟨d0, 0, none⟩)) (by rfl) (heap_alloc_new wq _) rfl (by omega) (Nat.le_trans hlq (baq _).size) (wq.heap.size + 1) (by simp) ?_; intro g3 cap3 w3 hown3 hgr3 hat3 hc3; obtain ⟨hT3, hl3⟩ := (HTq.out.below (baq _)).app_loose ((HOq.out.alloc _).drew) HN.out hn0 hown3 hgr3 (by simpa using hat3) hc3; have HT3 := Lib.hid hT3; have HL3 := Lib.hid hl3; have hb3 : Below B w w3 := hbq.trans (((baq _).mono hlq).grown hgr3 (Nat.le_trans hlq (baq _).size) (fun i hi => (HOq.out.lt i hi).1)); have HK3 : Hid (Kp w w3) := (HKq.out.trans (Kp.below (baq _))).trans (Kp.calm hc3 (by decide) (by decide)); have k1 : w3.cell? ⟨t, 4, none⟩ = some (.slice (some ⟨vb, 0, none⟩) nl nl) := (by rw [cell_of_row w3 t 4 _ 76 _ hT3.head]; rfl); have k2 : w3.cell? ⟨wo.heap.size, 0, none⟩ = some (.pointer (some ⟨lk, 0, none⟩)) := (by obtain ⟨cu, a1, -, a3⟩ := hc3 _ _ 63 (0, 0) (by rw [(baq _).block _ (lt_of_heap R63.out)]; exact R63.out); rw [cell_of_row w3 _ 0 _ 63 _ a1, a3 (by decide)]; rfl); have k3 := below_cells (HB.out.trans hb3) hw0 _ _ Z3.out; have hv3 : ∃ vs', w3.heap[vb]? = some (.cells vs' 33 (0, 0)) := (by obtain ⟨vs', a1, -⟩ := hT3.via; exact ⟨vs', a1⟩); have nvt : t ≠ vb := (by intro e; obtain ⟨vs', a1⟩ := hv3; rw [← e, hT3.head] at a1; cases a1); have nvr : wo.heap.size ≠ vb := (by omega); have nvl : lk ≠ vb := (by have := hT3.low.2.2.2.1; have := World.block_lt_of_cell? w0 _ Z3.out; simp at this; omega); have k4 : w3.cell? ⟨vb, idx, none⟩ = some v0 := hgr3.cell (alloc_cell sv) (by obtain ⟨vs', a1⟩ := hv3; intro e; rcases HOq.out.2 with ⟨rfl, -⟩ | ⟨g', cap', cur, rfl, b1, b2, -⟩ <;> simp [Value.ownBlock] at e; subst e; obtain ⟨cu, c1, -, c3⟩ := hc3 _ _ 35 (0, 0) (by rw [(baq _).block _ (lt_of_heap b2)]; exact b2); rw [a1] at c1; cases c1); have k5 : w3.frozen? ⟨vb, idx, none⟩ = false := (by obtain ⟨vs', a1⟩ := hv3; exact frozen_of_row w3 vb idx _ 33 a1); clear hT3 hl3 hgr3 hown3 hat3 hc3 hv3
          refine hK.out _ _ (⟨k1, k2, k3⟩) (fun hHeld => ?_)
          clear hK K
          try simp only [Act.put, List.setIfInBounds_toArray, List.set_cons_zero, List.set_cons_succ]
          refine wpAnyH_take (i := 23) (v := ?_) (by simp only [List.getElem?_toArray, List.getElem?_cons_zero, List.getElem?_cons_succ]; exact rfl) (by kernel_rfl) (by kernel_rfl) (by kernel_rfl) (fun _ _ _ h => h) (Or.inl ⟨by rfl, ?_⟩) hHeld ?_
          rotate_left 1
          · intro w' hSw
            try dsimp only at hSw
            go_simp
            try with_reducible rfl
          try simp only [Act.put, List.setIfInBounds_toArray, List.set_cons_zero, List.set_cons_succ]
          refine wpAnyH_ready (rs := [24]) (by kernel_rfl) (by simp) ?_
          refine AllReadyH.cons (by simp only [List.getElem?_toArray, List.getElem?_cons_zero, List.getElem?_cons_succ]; exact rfl) (fun K hK => ?_) ?_
          rotate_left 1
          · exact AllReadyH.nil
          go_simp
          refine hK.out _ _ (⟨set_cell1 k1 nvt, set_cell1 k2 nvr, set_cell1 k3 nvl⟩) (fun hHeld => ?_)
          clear hK K
          try simp only [Act.put, List.setIfInBounds_toArray, List.set_cons_zero, List.set_cons_succ]
          refine wpAnyH_done (by kernel_rfl) ?_ _
          refine NoPanic.normal ?_
          have HTf := Lib.hid (HT3.out.mono (Nat.le_succ _) |>.set_via HL3.out idx)
          have hbf : Below B w (w3.setCell ⟨vb, idx, none⟩ (.slice (some ⟨g3, 0, none⟩) (n0 + 1) cap3)) := hb3.setCell HT3.out.low.2.2.2.1 _
          have HKf : Hid (Kp w (w3.setCell ⟨vb, idx, none⟩ (.slice (some ⟨g3, 0, none⟩) (n0 + 1) cap3))) := by
            obtain ⟨vs', a1, -⟩ := HT3.out.via
            exact HK3.out.trans (Kp.calm (Calm.set a1) (by decide) (by decide))
          go_wp2
          go_roundw
          case rel => exact ⟨j + 1, by omega, by go_num, HTf, hbf, HKf⟩
          case measure => simp [intOf]; omega
        go_simp
        refine hK.out _ _ (⟨s4, r0, s3⟩) (fun hHeld => ?_)
        clear hK K
        try simp only [Act.put, List.setIfInBounds_toArray, List.set_cons_zero, List.set_cons_succ]
        refine wpAnyH_ready (rs := [21]) (by kernel_rfl) (by simp) ?_
        refine AllReadyH.cons (by simp only [List.getElem?_toArray, List.getElem?_cons_zero, List.getElem?_cons_succ]; exact rfl) (fun K hK => ?_) ?_
        rotate_left 1
        · exact AllReadyH.nil
        go_simp
        refine hK.out _ _ (⟨alloc_cell s4, alloc_cell r0, alloc_cell s3⟩) (fun hHeld => ?_)
        clear hK K
        try simp only [Act.put, List.setIfInBounds_toArray, List.set_cons_zero, List.set_cons_succ]
        refine wpAnyH_ready (rs := [22]) (by kernel_rfl) (by simp) ?_
        refine AllReadyH.cons (by simp only [List.getElem?_toArray, List.getElem?_cons_zero, List.getElem?_cons_succ]; exact rfl) (fun K hK => ?_) ?_
        rotate_left 1
        · exact AllReadyH.nil
        refine step_app _ (by rfl) _ _ (by rfl) B v0 n0 xs0 (by rfl) ((HOq.out.alloc _).drew) wq.heap.size (.pointer (some ⟨d0, 0, none⟩)) (by rfl) (heap_alloc_new wq _) rfl (by omega) (Nat.le_trans hlq (baq _).size) (wq.heap.size + 1) (by simp) ?_; intro g3 cap3 w3 hown3 hgr3 hat3 hc3; obtain ⟨hT3, hl3⟩ := (HTq.out.below (baq _)).app_loose ((HOq.out.alloc _).drew) HN.out hn0 hown3 hgr3 (by simpa using hat3) hc3; have HT3 := Lib.hid hT3; have HL3 := Lib.hid hl3; have hb3 : Below B w w3 := hbq.trans (((baq _).mono hlq).grown hgr3 (Nat.le_trans hlq (baq _).size) (fun i hi => (HOq.out.lt i hi).1)); have HK3 : Hid (Kp w w3) := (HKq.out.trans (Kp.below (baq _))).trans (Kp.calm hc3 (by decide) (by decide)); have k1 : w3.cell? ⟨t, 4, none⟩ = some (.slice (some ⟨vb, 0, none⟩) nl nl) := (by rw [cell_of_row w3 t 4 _ 76 _ hT3.head]; rfl); have k2 : w3.cell? ⟨wo.heap.size, 0, none⟩ = some (.pointer (some ⟨lk, 0, none⟩)) := (by obtain ⟨cu, a1, -, a3⟩ := hc3 _ _ 63 (0, 0) (by rw [(baq _).block _ (lt_of_heap R63.out)]; exact R63.out); rw [cell_of_row w3 _ 0 _ 63 _ a1, a3 (by decide)]; rfl); have k3 := below_cells (HB.out.trans hb3) hw0 _ _ Z3.out; have hv3 : ∃ vs', w3.heap[vb]? = some (.cells vs' 33 (0, 0)) := (by obtain ⟨vs', a1, -⟩ := hT3.via; exact ⟨vs', a1⟩); have nvt : t ≠ vb := (by intro e; obtain ⟨vs', a1⟩ := hv3; rw [← e, hT3.head] at a1; cases a1); have nvr : wo.heap.size ≠ vb := (by omega); have nvl : lk ≠ vb := (by have := hT3.low.2.2.2.1; have := World.block_lt_of_cell? w0 _ Z3.out; simp at this; omega); have k4 : w3.cell? ⟨vb, idx, none⟩ = some v0 := hgr3.cell (alloc_cell sv) (by obtain ⟨vs', a1⟩ := hv3; intro e; rcases HOq.out.2 with ⟨rfl, -⟩ | ⟨g', cap', cur, rfl, b1, b2, -⟩ <;> simp [Value.ownBlock] at e; subst e; obtain ⟨cu, c1, -, c3⟩ := hc3 _ _ 35 (0, 0) (by rw [(baq _).block _ (lt_of_heap b2)]; exact b2); rw [a1] at c1; cases c1); have k5 : w3.frozen? ⟨vb, idx, none⟩ = false := (by obtain ⟨vs', a1⟩ := hv3; exact frozen_of_row w3 vb idx _ 33 a1); clear hT3 hl3 hgr3 hown3 hat3 hc3 hv3
        refine hK.out _ _ (⟨k1, k2, k3⟩) (fun hHeld => ?_)
        clear hK K
        try simp only [Act.put, List.setIfInBounds_toArray, List.set_cons_zero, List.set_cons_succ]
        refine wpAnyH_take (i := 23) (v := ?_) (by simp only [List.getElem?_toArray, List.getElem?_cons_zero, List.getElem?_cons_succ]; exact rfl) (by kernel_rfl) (by kernel_rfl) (by kernel_rfl) (fun _ _ _ h => h) (Or.inl ⟨by rfl, ?_⟩) hHeld ?_
        rotate_left 1
        · intro w' hSw
          try dsimp only at hSw
          go_simp
          try with_reducible rfl
        try simp only [Act.put, List.setIfInBounds_toArray, List.set_cons_zero, List.set_cons_succ]
        refine wpAnyH_ready (rs := [24]) (by kernel_rfl) (by simp) ?_
        refine AllReadyH.cons (by simp only [List.getElem?_toArray, List.getElem?_cons_zero, List.getElem?_cons_succ]; exact rfl) (fun K hK => ?_) ?_
        rotate_left 1
        · exact AllReadyH.nil
        go_simp
        refine hK.out _ _ (⟨set_cell1 k1 nvt, set_cell1 k2 nvr, set_cell1 k3 nvl⟩) (fun hHeld => ?_)
        clear hK K
        try simp only [Act.put, List.setIfInBounds_toArray, List.set_cons_zero, List.set_cons_succ]
        refine wpAnyH_done (by kernel_rfl) ?_ _
        refine NoPanic.normal ?_
        have HTf := Lib.hid (HT3.out.mono (Nat.le_succ _) |>.set_via HL3.out idx)
        have hbf : Below B w (w3.setCell ⟨vb, idx, none⟩ (.slice (some ⟨g3, 0, none⟩) (n0 + 1) cap3)) := hb3.setCell HT3.out.low.2.2.2.1 _
        have HKf : Hid (Kp w (w3.setCell ⟨vb, idx, none⟩ (.slice (some ⟨g3, 0, none⟩) (n0 + 1) cap3))) := by
          obtain ⟨vs', a1, -⟩ := HT3.out.via
          exact HK3.out.trans (Kp.calm (Calm.set a1) (by decide) (by decide))
        go_wp2
        go_roundw
        case rel => exact ⟨j + 1, by omega, by go_num, HTf, hbf, HKf⟩
        case measure => simp [intOf]; omega
      · obtain rfl : d.rn = j := by omega
        go_wp2
        go_end0
        have hD2 := hD1.out
        subst hD2
        exact ⟨rfl, _, HTr.out, hbr, HKr.out⟩
end Go.Proofs.Qxb6613577a
