import Derived.Test.Qxb6613577aAdd
import Derived.Test.Qxb6613577aNormal
import Derived.Test.Qxb6613577aLook
import Derived.Deep.OwnRows
import Derived.Deep.Cut
import Derived.Deep.CutRange
import Derived.Deep.DeepCutAuto
namespace Go.Proofs.Qxb6613577a
open Go.RowKit
open Go.WideElems (Fit)
set_option linter.unusedVariables false
set_option linter.unusedSimpArgs false
attribute [local go_sem ↓] Go.wp_at_zero Go.wp_at_succ

theorem info4' : (Try.prog.info? 4).map (fun i => (i.zero, i.size, i.bytes)) = some (some (.bool false), 1, 1) := by kernel_rfl
theorem info53' : (Try.prog.info? 53).map (fun i => (i.zero, i.size, i.bytes)) = some (some (.int .u8 0), 1, 1) := by kernel_rfl

theorem made_at (z : Value) (n i : Nat) (h : i < n) : (madeCells #[z] n)[i]? = some z := by
  have h2 : (madeCells #[z] n).toList[i]? = some z := by rw [toList_madeCells_one]; simp [h]
  simpa using h2

theorem cell_al {w : World} {o : Obj} {x : Value} {q : Addr} (h : w.cell? q = some x) : (w.alloc o).cell? q = some x := alloc_cell h

theorem heap_top {W : World} {o : Obj} {t : Nat} (h : t = W.heap.size) : (W.alloc o).heap[t]? = some o := by subst h; exact heap_alloc_new W o
theorem heap_old {W : World} {o : Obj} {k : Nat} {x : Obj} (h : W.heap[k]? = some x) : (W.alloc o).heap[k]? = some x := by rw [Below.heap_alloc W o k (lt_of_heap h)]; exact h
theorem tab_drew {w : World} {B t c dm mm vb ub nl L : Nat} {lv : Value} {k : Nat} {dst : Nat → Nat} {D : DataW Unit} (h : TabAt w B t c dm mm vb ub nl L lv k dst D) : TabAt w.drew B t c dm mm vb ub nl L lv k dst D := h.below (Below.refl _ _).drew

theorem sumR_mono (ds : List DS) (k n : Nat) (h : k ≤ n) : sumR ds k ≤ sumR ds n := by
  induction n with
  | zero => have : k = 0 := by omega
            subst this; exact Nat.le_refl _
  | succ n ih =>
    by_cases e : k = n + 1
    · subst e; exact Nat.le_refl _
    · refine Nat.le_trans (ih (by omega)) ?_
      by_cases hl : n < ds.length
      · rw [sumR_succ ds n hl]; omega
      · unfold sumR
        rw [List.take_of_length_le (by omega), List.take_of_length_le (by omega)]
        exact Nat.le_refl _

theorem nr_form {w : World} {B m : Nat} {v : Value} (h : NR w B v m) : ∃ a l cap, v = .slice a l cap := by
  rcases h with ⟨rfl, -⟩ | ⟨-, g, cap, xs, c, rfl, -⟩
  · exact ⟨_, _, _, rfl⟩
  · exact ⟨_, _, _, rfl⟩

theorem wantV_ptr (ds : List DS) (n : Nat) (dst : Nat → Nat) (pc : Int) : ∃ pv, wantV ds n dst pc = .pointer pv := by
  unfold wantV
  split
  · exact ⟨_, rfl⟩
  · split
    · split
      · exact ⟨_, rfl⟩
      · exact ⟨_, rfl⟩
    · exact ⟨_, rfl⟩

theorem nest_ptr (B t c dm mm vb ub nl L n : Nat) (lv : Value) (dst pdf : Nat → Nat) (D : DataW Unit) (ds : List DS) (pc : Int) (w : World)
    (hT : TabAt w B t c dm mm vb ub nl L lv n dst D) (hm : MapOk ds n dst D) (h3 : 0 ≤ pc) (h4 : pc ≤ 4294967295)
    (hD : ∀ i d, ds[i]? = some d → i < n → (∃ nv, DstAt w (dst i) (pdf i) d.rn nv) ∧ w.cell? ⟨pdf i, 2, none⟩ = some (.bool d.nc)) (pv : Option Addr) (pcv : Int) (hpv : wantV ds n dst pc = .pointer pv) (hpc : pc = pcv) :
    Calls Try.prog 17 #[.pointer (some ⟨t, 0, none⟩), .int .u32 pcv] w fun e w' => LookPost w (.pointer pv) e w' := by
  subst hpc
  rw [← hpv]
  exact nest_any B t c dm mm vb ub nl L n lv dst pdf D ds pc w hT hm h3 h4 hD

/-- A new table. -/
theorem tab_made {w : World} {B t c dm mm vb ub nl : Nat} {dst : Nat → Nat}
    (h1 : w.heap[t]? = some (.cells #[.pointer (some ⟨c, 0, none⟩), .map (some dm), .slice none 0 0, .map (some mm), .slice (some ⟨vb, 0, none⟩) nl nl, .slice (some ⟨ub, 0, none⟩) nl nl, .int .i64 0] 76 (0, 0)))
    (h2 : w.heap[dm]? = some (.map #[] 0)) (h3 : w.heap[mm]? = some (.map #[] 0)) (h4 : w.heap[vb]? = some (.cells (madeCells #[.slice none 0 0] nl) 33 (0, 0))) (h5 : w.heap[ub]? = some (.cells (madeCells #[.bool false] nl) 4 (0, 0)))
    (hne : dm ≠ mm) (l1 : B ≤ t) (l2 : B ≤ dm) (l3 : B ≤ mm) (l4 : B ≤ vb) (l5 : B ≤ ub) (l6 : B ≤ w.heap.size) : TabAt w B t c dm mm vb ub nl 0 (.slice none 0 0) 0 dst (.map []) := by
  refine ⟨h1, World.ownsRow_nil _ _ _ _, ⟨_, h4, size_madeCells _ _, fun i v hv => ?_⟩, ⟨_, h5, fun i hi => made_at _ _ _ hi⟩, ⟨#[], 0, h3, by simp, ⟨by simp [maxLen], ⟨by simp, by simp, by simp⟩, by simp⟩, by simp⟩, ?_, ⟨l1, l2, l3, l4, l5, l6⟩, hne⟩
  · have hi : i < nl := by
      have := (Array.getElem?_eq_some_iff.1 hv).1
      rwa [size_madeCells] at this
    rw [made_at _ _ _ hi] at hv
    cases hv
    exact loose_nil _ _ _ _
  · exact ⟨#[], 0, h2, ⟨by simp [maxLen], ⟨by simp, by simp, by simp⟩, by simp⟩, by simp, by simp⟩

/-- The first loop's state: k destinations are added. -/
def Built (w wr : World) (ds : List DS) (pdf : Nat → Nat) (t c dm mm vb ub nl k : Nat) : Prop := ∃ lv dst D, TabAt wr w.heap.size t c dm mm vb ub nl (3 * k + sumR ds k) lv k dst D ∧ MapOk ds k dst D ∧ (∀ i d, ds[i]? = some d → i < k → DstAt wr (dst i) (pdf i) d.rn (.pointer none)) ∧ (∀ i, i < k → dst i < wr.heap.size) ∧ (∀ i j, i < j → j < k → dst i ≠ dst j) ∧ (∀ i, i < k → w.heap.size ≤ dst i)

/-- The second loop's state. -/
def Nested (w wr : World) (ds : List DS) (pdf : Nat → Nat) (t c dm mm vb ub nl n k : Nat) (lv : Value) (dst : Nat → Nat) (D : DataW Unit) : Prop := TabAt wr w.heap.size t c dm mm vb ub nl (3 * n + sumR ds n) lv n dst D ∧ (∀ i d, ds[i]? = some d → DstAt wr (dst i) (pdf i) d.rn (if i < k then nestV ds n dst d else .pointer none))

/-- What New leaves. -/
def NewPost (w : World) (ds : List DS) (pdf : Nat → Nat) (c nl n : Nat) (e : Ending) (w' : World) : Prop := ∃ t dm mm vb ub lv dst D, e = .returned (.pointer (some ⟨t, 0, none⟩)) ∧ Nested w w' ds pdf t c dm mm vb ub nl n n lv dst D ∧ MapOk ds n dst D ∧ Below w.heap.size w w'

theorem DstAt.set {w : World} {d p rn : Nat} {nest u : Value} (h : DstAt w d p rn nest) : DstAt (w.setCell ⟨d, 4, none⟩ u) d p rn u := by
  obtain ⟨nv, rb, rs, h1, h2, h3⟩ := h
  refine ⟨nv, rb, rs, by rw [heap_setCell_same w d 4 _ 40 u h1]; rfl, ?_, h3⟩
  rw [heap_setCell_other _ _ _ _ (by intro e; simp at e; subst e; rw [h1] at h2; cases h2)]; exact h2
theorem DstAt.other {w : World} {d d' p rn : Nat} {nest u : Value} (h : DstAt w d p rn nest) (hne : d ≠ d') {cs : Array Value} (hd : w.heap[d']? = some (.cells cs 40 (0, 0))) : DstAt (w.setCell ⟨d', 4, none⟩ u) d p rn nest := by
  obtain ⟨nv, rb, rs, h1, h2, h3⟩ := h
  exact ⟨nv, rb, rs, by rw [heap_setCell_other _ _ _ _ hne]; exact h1, by rw [heap_setCell_other _ _ _ _ (by intro e; simp at e; subst e; rw [hd] at h2; cases h2)]; exact h2, h3⟩

set_option maxHeartbeats 4000000 in
set_option maxRecDepth 100000 in
theorem new_any (c nl n : Nat) (ds : List DS) (pdf : Nat → Nat) (w : World) (hn : n = ds.length) (hc : CfgAt w c nl ds pdf) (hnl : nl ≤ 65536) (hn4 : n ≤ 4096) (hR : sumR ds n ≤ 65536) (hok : ∀ d ∈ ds, DsOk d) (hrn : ∀ d ∈ ds, d.rn ≤ 65536) :
    Calls Try.prog 10 #[.pointer (some ⟨c, 0, none⟩)] w fun e w' => NewPost w ds pdf c nl n e w' := by
  obtain ⟨lsb, pb, c3, c4, hpds⟩ := hc
  rw [← hn] at c4
  have HPD := Lib.hid hpds
  have HN := Lib.hid hn
  clear hpds hn
  have mkM1 : ∀ u : World, (Instr.makeMap 71 (some (.int .i64 (n : Int)))).run Try.prog u = .ok (.map (some u.heap.size)) (u.alloc (.map #[] 0)) := fun u => by
    simp [Instr.makeMap, run_underlying Try.underlying71, asInt, asIntOf]
  have mkM2 : ∀ u : World, (Instr.makeMap 72 none).run Try.prog u = .ok (.map (some u.heap.size)) (u.alloc (.map #[] 0)) := fun u => run_makeMap 72 u
  have mkV : ∀ u : World, (Instr.makeSlice 73 (.int .i64 (nl : Int)) (.int .i64 (nl : Int))).run Try.prog u = .ok (.slice (some ⟨u.heap.size, 0, none⟩) nl nl) (u.alloc (.cells (madeCells #[.slice none 0 0] nl) 33)) := fun u => run_make_row' 73 33 _ 24 Try.underlying73 info33' rfl .i64 .i64 nl (by omega) (by omega) u
  have mkU : ∀ u : World, (Instr.makeSlice 74 (.int .i64 (nl : Int)) (.int .i64 (nl : Int))).run Try.prog u = .ok (.slice (some ⟨u.heap.size, 0, none⟩) nl nl) (u.alloc (.cells (madeCells #[.bool false] nl) 4)) := fun u => run_make_row' 74 4 _ 1 Try.underlying74 info4' rfl .i64 .i64 nl (by omega) (by omega) u
  go_enter Try.func10, Try.ntmps10
  go_wp2_with fail
  go_cut [3] (fun s3 wc => ∃ t dm mm vb ub, s3 = .pointer (some ⟨t, 0, none⟩) ∧ Hid (TabAt wc w.heap.size t c dm mm vb ub nl 0 (.slice none 0 0) 0 (fun _ => 0) (.map [])) ∧ Below w.heap.size w wc)
  case first =>
    go_region_held3 (fun w' => w'.cell? ⟨c, 3, none⟩ = some (.slice (some ⟨lsb, 0, none⟩) nl nl) ∧ w'.cell? ⟨c, 4, none⟩ = some (.slice (some ⟨pb, 0, none⟩) n n)) (first | exact ⟨c3, c4⟩ | exact ⟨cell_al (c3), cell_al (c4)⟩ | exact ⟨cell_al (cell_al (c3)), cell_al (cell_al (c4))⟩ | exact ⟨cell_al (cell_al (cell_al (c3))), cell_al (cell_al (cell_al (c4)))⟩ | exact ⟨cell_al (cell_al (cell_al (cell_al (c3)))), cell_al (cell_al (cell_al (cell_al (c4))))⟩ | exact ⟨cell_al (cell_al (cell_al (cell_al (cell_al (c3))))), cell_al (cell_al (cell_al (cell_al (cell_al (c4)))))⟩) (fail)
    all_goals
      go_wp2
      go_meet
      case rel =>
        refine ⟨_, _, _, _, _, rfl, tab_drew (tab_made (heap_top (by simp <;> omega)) ?_ ?_ ?_ ?_ ?_ ?_ ?_ ?_ ?_ ?_ ?_), ?_⟩
        · first | (refine heap_old (heap_top ?_); first | rfl | (simp; done) | (simp; omega)) | (refine heap_old (heap_old (heap_top ?_)); first | rfl | (simp; done) | (simp; omega)) | (refine heap_old (heap_old (heap_old (heap_top ?_))); first | rfl | (simp; done) | (simp; omega)) | (refine heap_old (heap_old (heap_old (heap_old (heap_top ?_)))); first | rfl | (simp; done) | (simp; omega))
        · first | (refine heap_old (heap_top ?_); first | rfl | (simp; done) | (simp; omega)) | (refine heap_old (heap_old (heap_top ?_)); first | rfl | (simp; done) | (simp; omega)) | (refine heap_old (heap_old (heap_old (heap_top ?_))); first | rfl | (simp; done) | (simp; omega)) | (refine heap_old (heap_old (heap_old (heap_old (heap_top ?_)))); first | rfl | (simp; done) | (simp; omega))
        · first | (refine heap_old (heap_top ?_); first | rfl | (simp; done) | (simp; omega)) | (refine heap_old (heap_old (heap_top ?_)); first | rfl | (simp; done) | (simp; omega)) | (refine heap_old (heap_old (heap_old (heap_top ?_))); first | rfl | (simp; done) | (simp; omega)) | (refine heap_old (heap_old (heap_old (heap_old (heap_top ?_)))); first | rfl | (simp; done) | (simp; omega))
        · first | (refine heap_old (heap_top ?_); first | rfl | (simp; done) | (simp; omega)) | (refine heap_old (heap_old (heap_top ?_)); first | rfl | (simp; done) | (simp; omega)) | (refine heap_old (heap_old (heap_old (heap_top ?_))); first | rfl | (simp; done) | (simp; omega)) | (refine heap_old (heap_old (heap_old (heap_old (heap_top ?_)))); first | rfl | (simp; done) | (simp; omega))
        · omega
        · omega
        · omega
        · omega
        · omega
        · omega
        · simp <;> omega
        · exact (((((Below.refl _ _).alloc (by simp) _).alloc (by simp <;> omega) _).alloc (by simp <;> omega) _).alloc (by simp <;> omega) _).alloc (by simp <;> omega) _ |>.drew
  case rest =>
    obtain ⟨t, dm, mm, vb, ub, rfl, HT0, hb0⟩ := hcut
    have d3 := below_cells hb0 (Nat.le_refl _) _ _ c3
    have d4 := below_cells hb0 (Nat.le_refl _) _ _ c4
    have C3 := Lib.hid c3
    have C4 := Lib.hid c4
    clear c3 c4 mkV mkU mkM1 mkM2
    go_wp2
    go_loopw [35] (fun i wr => ∃ k : Nat, k ≤ n ∧ i = .int .i64 k ∧ Hid (Built w wr ds pdf t c dm mm vb ub nl k) ∧ Below w.heap.size w wr) (fun i _ => n - (intOf i).toNat)
    case atStart => exact ⟨0, Nat.zero_le _, rfl, ⟨_, _, _, HT0.out, MapOk.start _ _, fun i d _ h => absurd h (by omega), fun i h => absurd h (by omega), fun i j _ h => absurd h (by omega), fun i h => absurd h (by omega)⟩, hb0⟩
    case round =>
      obtain ⟨k, hk, rfl, HBt, hbr⟩ := hrel
      obtain ⟨wo, rfl⟩ : ∃ wo : World, wo = wr := ⟨_, rfl⟩
      by_cases hlt : k < n
      · have hkl : k < ds.length := by rw [← HN.out]; exact hlt
        obtain ⟨g1, hX, g2, g3, -, ra, g4, hra⟩ := HPD.out k hkl hkl
        have hdk : ds[k]? = some ds[k] := List.getElem?_eq_getElem hkl
        have hdo := hok _ (List.getElem_mem hkl)
        have hdr := hrn _ (List.getElem_mem hkl)
        have hsum := sumR_succ ds k hkl
        have hsm : sumR ds (k + 1) ≤ 65536 := Nat.le_trans (sumR_mono ds (k + 1) n (by omega)) hR
        have hpd : PdAt w pb nl (pdf k) ds[k] := (HPD.out k hkl hkl).2
        generalize hdd : ds[k] = d at hdk hdo hdr hsum hpd g2 g3 g4 hra
        generalize hpk : pdf k = p at hpd g1 g2 g3 g4 hX
        have b1 := below_cells hbr (Nat.le_refl _) _ _ g1
        have b4 := below_cells hbr (Nat.le_refl _) _ _ g4
        have HRO := Lib.hid (hra.same (Same.below (X := pb) hbr (Nat.le_refl _)))
        have mkR : ∀ u : World, (Instr.makeSlice 38 (.int .i64 (d.rn : Int)) (.int .i64 (d.rn : Int))).run Try.prog u = .ok (.slice (some ⟨u.heap.size, 0, none⟩) d.rn d.rn) (u.alloc (.cells (madeCells #[.int .u8 0] d.rn) 53)) := fun u => run_make_row' 38 53 _ 1 Try.underlying38 info53' rfl .i64 .i64 d.rn (by omega) (by omega) u
        have ADD : Hid (∀ (W : World) (v : Value) (rb d0 : Nat), Below wo.heap.size wo W → W.heap[d0]? = some (.cells #[.pointer (some ⟨p, 0, none⟩), v, .slice (some ⟨rb, 0, none⟩) d.rn d.rn, .pointer none, .pointer none, .bool false] 40 (0, 0)) → W.heap[rb]? = some (.cells (madeCells #[.int .u8 0] d.rn) 53 (0, 0)) → wo.heap.size ≤ d0 →
            Calls Try.prog 20 #[.pointer (some ⟨t, 0, none⟩), .pointer (some ⟨d0, 0, none⟩)] W fun e w' => e = .returned (.tuple #[]) ∧ Hid (Built w w' ds pdf t c dm mm vb ub nl (k + 1)) ∧ Below w.heap.size w w') := by
          intro W v rb d0 hW hd0 hrb hle
          obtain ⟨lv, dst, D, a1, a2, a3, a4, a5, a6⟩ := HBt.out
          have he : ∀ i, i < k → dst i = (fun i => if i = k then d0 else dst i) i := fun i hi => by simp only; rw [if_neg (by omega)]
          refine (add_any w.heap.size t c dm mm vb ub nl (3 * k + sumR ds k) k p d0 pb lv v _ (fun i => if i = k then d0 else dst i) D d w W ((a1.below hW).congr he) (by simp) hd0 (Nat.le_refl _) (hbr.trans (hW.mono hbr.size)) hpd hdo (by omega) (by omega)).mono ?_
          rintro e w' ⟨rfl, lv', q1, q2, q3⟩
          refine ⟨rfl, ⟨lv', fun i => if i = k then d0 else dst i, _, by rw [hsum, show 3 * (k + 1) + (sumR ds k + d.rn) = 3 * k + sumR ds k + 3 + d.rn by omega]; exact q1, ?_, ?_, ?_, ?_, ?_⟩, (hbr.trans (hW.mono hbr.size)).trans q2⟩
          · have := (a2.congr he).put hdk hdo
            simpa using this
          · intro i d' hi hik
            by_cases e : i = k
            · subst e
              rw [hdk] at hi; cases hi
              simp only [if_true]
              rw [hpk]
              exact DstAt.kp ⟨v, rb, _, hd0, hrb, fun i hi => made_at _ _ _ hi⟩ q3
            · simp only [e, if_false]
              exact ((a3 i d' hi (by omega)).kp (Kp.below hW)).kp q3
          · intro i hik
            by_cases e : i = k
            · simp only [e, if_true]; exact Nat.lt_of_lt_of_le (lt_of_heap hd0) q2.size
            · simp only [e, if_false]; exact Nat.lt_of_lt_of_le (Nat.lt_of_lt_of_le (a4 i (by omega)) hW.size) q2.size
          · intro i j hij hjk
            by_cases e : j = k
            · subst e
              have := a4 i hij
              simp only [if_true, show i ≠ j by omega, if_false]
              omega
            · simp only [e, if_false, show i ≠ k by omega]
              exact a5 i j hij (by omega)
          · intro i hik
            by_cases e : i = k
            · simp only [e, if_true]; exact Nat.le_trans hbr.size hle
            · simp only [e, if_false]; exact a6 i (by omega)
        have G4 := Lib.hid g4
        clear hpd hra g1 g2 g3 g4 hX hdo
        go_wp2_with fail
        go_region_held3 (fun w' => w'.cell? ⟨p, 4, none⟩ = some (.slice ra d.rn d.rn))
          (first | exact b4 | exact b5 | exact b4N | exact alloc_cell b4 | exact alloc_cell b4N | exact alloc_cell (alloc_cell b4N))
          ((first | (go_at_call 21; refine (normal_any pb nl d.rn ra _ hdr (HRO.out.same (Same.below (X := pb) (Below.refl _ _).drew (Nat.le_refl _)))).mono ?_; rintro e wN ⟨vN, mN, rfl, hNR, hbN⟩; obtain ⟨aN, lN, cN, rfl⟩ := nr_form hNR; clear hNR; have hN : Below wo.heap.size wo wN := ((Below.refl wo.heap.size wo).drew).trans hbN; have b4N := below_cells hN (Nat.le_refl _) _ _ b4) | (go_at_call 21; refine (normal_any pb nl d.rn ra _ hdr (HRO.out.same (Same.below (X := pb) ((Below.refl _ _).alloc (Nat.le_refl _) _).drew (Nat.le_refl _)))).mono ?_; rintro e wN ⟨vN, mN, rfl, hNR, hbN⟩; obtain ⟨aN, lN, cN, rfl⟩ := nr_form hNR; clear hNR; have hN : Below wo.heap.size wo wN := (((Below.refl wo.heap.size wo).alloc (Nat.le_refl _) _).drew).trans (hbN.mono (by simp)); have rbN : wN.heap[wo.heap.size]? = some (.cells (madeCells #[.int .u8 0] d.rn) 53 (0, 0)) := (by rw [hbN.block _ (by simp)]; exact heap_alloc_new wo _); have b4N := below_cells hN (Nat.le_refl _) _ _ b4) | (go_at_call 20; refine (ADD.out _ (.slice aN lN cN) wo.heap.size wN.heap.size (hN.alloc hN.size _) (heap_top rfl) (heap_old rbN) hN.size).mono ?_; rintro e w5 ⟨rfl, HB5, hb5⟩; have b5 := below_cells hb5 (Nat.le_refl _) _ _ G4.out) | (go_at_call 20; refine (ADD.out _ (.slice aN lN cN) wN.heap.size (wN.heap.size + 1) ((hN.alloc hN.size _).alloc (Nat.le_trans hN.size (by simp)) _) (heap_top (by simp)) (heap_old (heap_top rfl)) (Nat.le_trans hN.size (Nat.le_succ _))).mono ?_; rintro e w5 ⟨rfl, HB5, hb5⟩; have b5 := below_cells hb5 (Nat.le_refl _) _ _ G4.out)))
        all_goals
          go_wp2
          go_roundw
          case rel => exact ⟨k + 1, by omega, by go_num, HB5, hb5⟩
          case measure => simp [intOf]; omega
      · obtain rfl : n = k := by omega
        obtain ⟨lv, dst, D, a1, a2, a3, a4, a5, a6⟩ := HBt.out
        have t2 : wo.cell? ⟨t, 2, none⟩ = some lv := by rw [cell_of_row wo t 2 _ 76 _ a1.head]; rfl
        have HM := Lib.hid a2
        have HI := Lib.hid a5
        have DLOW : Hid (∀ i, i < n → w.heap.size ≤ dst i) := a6
        have HNst : Hid (Nested w wo ds pdf t c dm mm vb ub nl n 0 lv dst D) := ⟨a1, fun i d hi => by
          have hin : i < n := by rw [HN.out]; exact (List.getElem?_eq_some_iff.1 hi).1
          simpa using a3 i d hi hin⟩
        obtain ⟨al, cap, rfl, hal⟩ : ∃ al cap, lv = .slice al n cap ∧ (0 < n → ∃ g, al = some ⟨g, 0, none⟩) := by
          rcases a1.list.2 with ⟨h, h0⟩ | ⟨g, cap, cur, h, -⟩
          · exact ⟨none, 0, by rw [h, h0], fun h => absurd h (by omega)⟩
          · exact ⟨_, cap, h, fun _ => ⟨g, rfl⟩⟩
        clear a1 a2 a3 a4 a5 a6
        have HAL := Lib.hid hal
        clear hal
        go_wp2
        go_loopw [61] (fun i wr => ∃ k : Nat, k ≤ n ∧ i = .int .i64 k ∧ Hid (Nested w wr ds pdf t c dm mm vb ub nl n k (.slice al n cap) dst D) ∧ Below w.heap.size w wr) (fun i _ => n - (intOf i).toNat)
        case atStart => exact ⟨0, Nat.zero_le _, rfl, HNst, hbr⟩
        case round =>
          obtain ⟨k, hk, rfl, HNs, hbs⟩ := hrel
          obtain ⟨wx, rfl⟩ : ∃ wx : World, wx = wr := ⟨_, rfl⟩
          by_cases hlt : k < n
          · obtain ⟨g, rfl⟩ := HAL.out (by omega)
            have hkl : k < ds.length := by rw [← HN.out]; exact hlt
            obtain ⟨g1, hX, g2, g3, -⟩ := HPD.out k hkl hkl
            have hdk : ds[k]? = some ds[k] := List.getElem?_eq_getElem hkl
            have hdo := hok _ (List.getElem_mem hkl)
            have y0 := below_cells hbs (Nat.le_refl _) _ _ g2
            have y1 := below_cells hbs (Nat.le_refl _) _ _ g3
            have yl : wx.cell? ⟨g, k, none⟩ = some (.pointer (some ⟨dst k, 0, none⟩)) := by
              have := HNs.out.1.list.cells (g := g) rfl k (.pointer (some ⟨dst k, 0, none⟩)) (by simp [hlt])
              rwa [Addr.add_lit, Nat.zero_add] at this
            have HDk := Lib.hid (HNs.out.2 k _ hdk)
            have ye : wx.cell? ⟨dst k, 0, none⟩ = some (.pointer (some ⟨pdf k, 0, none⟩)) := by
              obtain ⟨nv, rb, rs, h1, -⟩ := HDk.out
              rw [cell_of_row wx _ 0 _ 40 _ h1]; rfl
            have DSTEP : Hid (∀ (w2 : World) (V : Value), Below wx.heap.size wx w2 → V = nestV ds n dst ds[k] → Nested w (w2.setCell ⟨dst k, 4, none⟩ V) ds pdf t c dm mm vb ub nl n (k + 1) (.slice (some ⟨g, 0, none⟩) n cap) dst D) := fun w2 V h2 hV => by
              have hq := HDk.out.kp (Kp.below h2)
              obtain ⟨nv, rb, rs, h1, -⟩ := id hq
              refine ⟨(HNs.out.1.below h2).set40 h1, fun i d' hi => ?_⟩
              by_cases e : i = k
              · subst e
                rw [hdk] at hi; cases hi
                rw [if_pos (by omega), ← hV]
                exact hq.set
              · have hin : i < n := by rw [HN.out]; exact (List.getElem?_eq_some_iff.1 hi).1
                have hne : dst i ≠ dst k := by
                  rcases Nat.lt_or_gt_of_ne e with h | h
                  · exact HI.out i k h hlt
                  · exact Ne.symm (HI.out k i h hin)
                have := (HNs.out.2 i d' hi).kp (Kp.below h2)
                rw [show (if i < k + 1 then nestV ds n dst d' else .pointer none) = (if i < k then nestV ds n dst d' else .pointer none) by
                  by_cases h : i < k
                  · rw [if_pos h, if_pos (by omega)]
                  · rw [if_neg h, if_neg (by omega)]]
                exact this.other hne h1
            have DNO : Hid (nestV ds n dst ds[k] = .pointer none → Nested w wx ds pdf t c dm mm vb ub nl n (k + 1) (.slice (some ⟨g, 0, none⟩) n cap) dst D) := fun hV => by
              refine ⟨HNs.out.1, fun i d' hi => ?_⟩
              by_cases e : i = k
              · subst e
                have := HNs.out.2 i d' hi
                rw [hdk] at hi; cases hi
                rw [if_neg (by omega)] at this
                rw [if_pos (by omega), hV]
                exact this
              · rw [show (if i < k + 1 then nestV ds n dst d' else .pointer none) = (if i < k then nestV ds n dst d' else .pointer none) by
                  by_cases h : i < k
                  · rw [if_pos h, if_pos (by omega)]
                  · rw [if_neg h, if_neg (by omega)]]
                exact HNs.out.2 i d' hi
            by_cases hk0 : ds[k].kind = 0
            · obtain ⟨pv, hpv⟩ := wantV_ptr ds n dst ds[k].pc
              obtain ⟨pcv, hpcv⟩ : ∃ pcv, ds[k].pc = pcv := ⟨_, rfl⟩
              obtain ⟨p, hpp⟩ : ∃ p, pdf k = p := ⟨_, rfl⟩
              obtain ⟨d0, hd0⟩ : ∃ d0, dst k = d0 := ⟨_, rfl⟩
              have HNV : Hid (.pointer pv = nestV ds n dst ds[k]) := by unfold nestV; rw [if_pos hk0, hpv]; exact rfl
              have NEST : Hid (Calls Try.prog 17 #[.pointer (some ⟨t, 0, none⟩), .int .u32 pcv] wx fun e w' => LookPost wx (.pointer pv) e w') :=
                nest_ptr w.heap.size t c dm mm vb ub nl _ n _ dst pdf D ds ds[k].pc wx HNs.out.1 HM.out hdo.2.2.1 hdo.2.2.2.1 (fun i d' hi hin => ⟨⟨_, HNs.out.2 i d' hi⟩, by
                  have hil := (List.getElem?_eq_some_iff.1 hi).1
                  have h2 := (HPD.out i hil hil).2.2.2.2.1
                  rw [(List.getElem?_eq_some_iff.1 hi).2] at h2
                  exact below_cells hbs (Nat.le_refl _) _ _ h2⟩) pv pcv hpv hpcv
              have y0' : wx.cell? ⟨p, 0, none⟩ = some (.int .u8 0) := by rw [← hpp, ← hk0]; exact y0
              have y1' : wx.cell? ⟨p, 1, none⟩ = some (.int .u32 pcv) := by rw [← hpp, ← hpcv]; exact y1
              have ye' : wx.cell? ⟨d0, 0, none⟩ = some (.pointer (some ⟨p, 0, none⟩)) := by rw [← hpp, ← hd0]; exact ye
              have yl' : wx.cell? ⟨g, k, none⟩ = some (.pointer (some ⟨d0, 0, none⟩)) := by rw [← hd0]; exact yl
              have DS2 : Hid (∀ (w2 : World), Below wx.heap.size wx w2 → Nested w (w2.setCell ⟨d0, 4, none⟩ (.pointer pv)) ds pdf t c dm mm vb ub nl n (k + 1) (.slice (some ⟨g, 0, none⟩) n cap) dst D ∧ Below w.heap.size w (w2.setCell ⟨d0, 4, none⟩ (.pointer pv))) := fun w2 h2 => by
                subst hd0
                exact ⟨DSTEP.out w2 _ h2 HNV.out, (hbs.trans (h2.mono hbs.size)).setCell (DLOW.out k hlt) _⟩
              have S12 : Hid (∀ (w2 : World), Below wx.heap.size wx w2 → (∃ x, w2.cell? ⟨d0, 4, none⟩ = some x) ∧ w2.frozen? ⟨d0, 4, none⟩ = false) := fun w2 h2 => by
                subst hd0
                obtain ⟨nv, rb, rs, h1, -⟩ := HDk.out.kp (Kp.below h2)
                exact ⟨⟨_, cell_of_row w2 _ 4 _ 40 _ h1⟩, frozen_of_row w2 _ 4 _ 40 h1⟩
              clear g1 hX g2 g3 hdk hdo DNO hpv hd0 hpp hpcv hk0 y0 y1 ye yl DSTEP HDk HNV
              go_wp2_with (go_at_call 17; refine NEST.out.mono ?_; rintro e w2 ⟨rfl, hb2⟩; obtain ⟨⟨sx, s1⟩, s2⟩ := S12.out w2 hb2)
              obtain ⟨f1, f2⟩ := DS2.out w2 hb2
              go_roundw
              case rel => exact ⟨k + 1, by omega, by go_num, f1, f2⟩
              case measure => simp [intOf]; omega
            · have hnv : nestV ds n dst ds[k] = .pointer none := by unfold nestV; rw [if_neg hk0]
              have hkd : (ds[k].kind == 0) = false := by simp [hk0]
              generalize hdd : ds[k].kind = kv at y0 hkd hk0
              generalize hpp : pdf k = p at y0 y1 ye
              have HNV := Lib.hid hnv
              clear g1 hX g2 g3 hdk hdo hnv DSTEP
              go_wp2
              go_roundw
              case rel => exact ⟨k + 1, by omega, by go_num, DNO.out HNV.out, hbs⟩
              case measure => simp [intOf]; omega
          · obtain rfl : n = k := by omega
            go_wp2
            go_ret
            exact ⟨t, dm, mm, vb, ub, _, dst, D, rfl, HNs.out, HM.out, hbs⟩
end Go.Proofs.Qxb6613577a
