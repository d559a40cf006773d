import Derived.Test.Qxb6613577aMem
import Derived.Test.Qxb6613577aGuards
import Derived.Deep.Cut
import Derived.Deep.CutRange
import Derived.Deep.DeepCutAuto
namespace Go.Proofs.Qxb6613577a
open Go.RowKit
set_option linter.unusedVariables false
attribute [local go_sem ↓] Go.wp_at_zero Go.wp_at_succ

theorem info59 : (Try.prog.info? 59).map (fun i => (i.zero, i.size, i.bytes)) = some (some (.pointer none), 1, 8) := by kernel_rfl
theorem info36 : (Try.prog.info? 36).map (fun i => (i.zero, i.size, i.bytes)) = some (some (.pointer none), 1, 8) := by kernel_rfl
theorem info63 : (Try.prog.info? 63).map (fun i => (i.zero, i.size, i.bytes)) = some (some (.agg #[.pointer none, .int .i64 0]), 2, 16) := by kernel_rfl

set_option maxHeartbeats 4000000 in
set_option maxRecDepth 100000 in
theorem config_any (nl : Nat) (a : Option Addr) (n cap : Nat) (ds : List DS) (w : World) (hn : n ≤ 4096) (hnl : nl ≤ 65536) (hs : SpecAt w a n ds) (hrs : ∀ d ∈ ds, d.rn ≤ 65536) (hin : ∀ d ∈ ds, InRange nl d) :
    Calls Try.prog 8 #[.int .i64 nl, .slice a n cap] w fun e w' => CfgPost w nl ds e w' := by
  obtain ⟨i59, hi59, hz59, hs59, hb59⟩ := info_parts info59
  obtain ⟨i36, hi36, hz36, hs36, hb36⟩ := info_parts info36
  obtain ⟨i63, hi63, hz63, hs63, hb63⟩ := info_parts info63
  have HS := Lib.hid hs
  have HRS := Lib.hid hrs
  have HIN := Lib.hid hin
  clear hs hrs hin
  go_enter Try.func8, Try.ntmps8
  go_wp2_with (at_make; refine wpList_make_full _ rfl _ _ 58 rfl w.heap.size 59 i59 (.pointer none) 1 Try.underlying58 hi59 hz59 hs59 _ _ _ _ nl rfl rfl rfl rfl (by rw [hb59]; omega) (by unfold maxLen; omega) (Nat.le_refl _) ?_; intro w1 hown1 hgrow1; refine Hid.out ?_)
  refine Lib.hid ?_
  have hB1 : Below w.heap.size w w1 := (Below.refl _ _).grown hgrow1 (Nat.le_refl _) (by simp)
  have hT1 := there_made hown1 (by omega)
  rw [Nat.mul_one] at hT1
  have hlt1 : w.heap.size < w1.heap.size := (hown1.lt w.heap.size rfl).2
  have HT1 := Lib.hid hT1
  clear hown1 hgrow1 hT1
  go_wp2
  go_loopw [6] (fun i wr => ∃ k : Nat, k ≤ nl ∧ i = .int .i64 k ∧ Below w.heap.size w wr ∧ Hid (There wr w.heap.size nl) ∧ w.heap.size < wr.heap.size ∧ Hid (LsRow wr w.heap.size k)) (fun i _ => nl - (intOf i).toNat)
  case atStart => exact ⟨0, Nat.zero_le _, rfl, hB1, HT1, hlt1, fun t h => absurd h (by omega)⟩
  case round =>
    clear hB1 HT1 hlt1
    obtain ⟨k, hk, rfl, hbr, HT, hls, HL⟩ := hrel
    by_cases hlt : k < nl
    · obtain ⟨⟨v, hv⟩, hf⟩ := HT.out k hlt
      go_wp2
      go_roundw
      case rel =>
        have hs : (wr.setCell ⟨w.heap.size, k, none⟩ (.pointer (some ⟨wr.heap.size, 0, none⟩))).heap.size = wr.heap.size := by simp
        refine ⟨k + 1, by omega, by go_num, (hbr.setCell (Nat.le_refl _) _).alloc (by rw [hs]; omega) _, (HT.out.set _ _).alloc (by rw [hs]; omega) _, by simp; omega, HL.out.step HT.out hlt hls _ _ _ _ _⟩
      case measure => simp [intOf]; omega
    · obtain rfl : nl = k := by omega
      obtain ⟨w2, rfl⟩ : ∃ w2 : World, w2 = wr := ⟨_, rfl⟩
      go_wp2_with (at_make; refine wpList_make_full _ rfl _ _ 29 rfl w2.heap.size 36 i36 (.pointer none) 1 Try.underlying29 hi36 hz36 hs36 _ _ _ _ n rfl rfl rfl rfl (by rw [hb36]; omega) (by unfold maxLen; omega) (Nat.le_refl _) ?_; intro w3 hown3 hgrow3; refine Hid.out ?_)
      refine Lib.hid ?_
      have hB3' : Below w2.heap.size w2 w3 := (Below.refl _ _).grown hgrow3 (Nat.le_refl _) (by simp)
      have hB3 : Below w.heap.size w w3 := hbr.trans (hB3'.mono (by omega))
      have hT3 := there_made hown3 (by omega)
      rw [Nat.mul_one] at hT3
      have hlt3 : w2.heap.size < w3.heap.size := (hown3.lt w2.heap.size rfl).2
      have hLs3 : LsAt w3 w2.heap.size w.heap.size nl := (HL.out.at (Nat.le_refl _)).same (by omega) (Same.below hB3' (Nat.le_refl _))
      have HT3 := Lib.hid hT3
      have HL3 := Lib.hid hLs3
      obtain ⟨pb, Hpb⟩ : ∃ pb, Hid (pb = w2.heap.size) := ⟨_, rfl⟩
      rw [← Hpb.out] at HT3 HL3 hlt3 ⊢
      have hpw : w.heap.size < pb := by have := Hpb.out; omega
      clear hown3 hgrow3 hT3 hLs3 hB3' HT HL hbr hls
      clear Hpb
      go_wp2
      go_loopw [8] (fun i wr => ∃ k : Nat, k ≤ n ∧ i = .int .i64 k ∧ Below w.heap.size w wr ∧ Hid (There wr pb n) ∧ pb < wr.heap.size ∧ Hid (LsAt wr pb w.heap.size nl) ∧ Hid (∃ pdf : Nat → Nat, PdsAt wr pb nl ds pdf k)) (fun i _ => n - (intOf i).toNat)
      case atStart => exact ⟨0, Nat.zero_le _, rfl, hB3, HT3, hlt3, HL3, fun _ => 0, fun t _ h => absurd h (by omega)⟩
      case round =>
        clear hB3 HT3 hlt3 HL3
        obtain ⟨k, hk, rfl, hbr, HT, hls, HL, HP⟩ := hrel
        by_cases hlt : k < n
        · obtain ⟨b, o, rfl, d, hd, hok, c0, c1, c2, c3, hrs⟩ := spec_at (SpecAt.below HS.out hbr) k hlt
          obtain ⟨b', o', hb', d', hd', -, hB0, -⟩ := spec_at HS.out k hlt
          obtain ⟨rfl, rfl⟩ : b = b' ∧ o = o' := by simpa using hb'
          have HB0 := Lib.hid hB0
          clear hb' hd' hB0
          have hkl : k < ds.length := (List.getElem?_eq_some_iff.1 hd).1
          have hdk : ds[k] = d := (List.getElem?_eq_some_iff.1 hd).2
          have hrn : d.rn ≤ 65536 := by rw [← hdk]; exact HRS.out _ (List.getElem_mem hkl)
          have hInr : InRange nl d := by rw [← hdk]; exact HIN.out _ (List.getElem_mem hkl)
          have HDK := Lib.hid hdk
          have HRR := Lib.hid hrs
          have HInr := Lib.hid hInr
          clear hd hok hdk hrs hInr
          have hnil := fun w (a : Option Addr) n c => run_neq_slice_nil_any (P := Try.prog) w 43 57 a n c 0 0 Try.underlying43
          obtain ⟨wo, rfl⟩ : ∃ wo : World, wo = wr := ⟨_, rfl⟩
          go_upto_if 38 with fail
          go_cut [9] (fun s9 wc => ∃ ra, s9 = .slice ra d.rn d.rn ∧ Below wo.heap.size wo wc ∧ Hid (RtFill wc wo.heap.size pb nl ra d.rn 0))
          case first =>
            cases hra : d.ra with
            | none =>
              have hr0 : d.rn = 0 := by
                rcases HRR.out with h | ⟨rb, ro, h, -⟩
                · exact h
                · rw [hra] at h; cases h
              have HR0 := Lib.hid hr0
              rw [hra] at c3
              clear hr0 hra
              go_wp2
              go_meet
              case rel => exact ⟨none, by rw [HR0.out], Below.refl _ _, Or.inl HR0.out⟩
            | some x =>
              rw [hra] at c3
              clear hra
              go_wp2_with (at_make; refine wpList_make_full _ rfl _ _ 37 rfl wo.heap.size 63 i63 (.agg #[.pointer none, .int .i64 0]) 2 Try.underlying37 hi63 hz63 hs63 _ _ _ _ d.rn rfl rfl rfl rfl (by rw [hb63]; omega) (by unfold maxLen; omega) (Nat.le_refl _) ?_; intro w4 hown4 hgrow4; refine Hid.out ?_)
              refine Lib.hid ?_
              have hB4 : Below wo.heap.size wo w4 := (Below.refl _ _).grown hgrow4 (Nat.le_refl _) (by simp)
              have hT4 := there_made hown4 (by omega)
              have hlt4 : wo.heap.size < w4.heap.size := (hown4.lt wo.heap.size rfl).2
              clear hown4 hgrow4
              go_wp2
              go_meet
              case rel => exact ⟨_, rfl, hB4, Or.inr ⟨_, rfl, Nat.le_refl _, hlt4, hT4, fun t h => absurd h (by omega)⟩⟩
          case rest =>
            obtain ⟨ra, rfl, hBc, HF0⟩ := hcut
            go_wp2
            go_loopw [10] (fun i wi => ∃ j : Nat, j ≤ d.rn ∧ i = .int .i64 j ∧ Below wo.heap.size wo wi ∧ Hid (RtFill wi wo.heap.size pb nl ra d.rn j)) (fun i _ => d.rn - (intOf i).toNat)
            case atStart => exact ⟨0, Nat.zero_le _, rfl, hBc, HF0⟩
            case round =>
              clear hBc HF0
              obtain ⟨j, hj, rfl, hbi, HF⟩ := hrel
              obtain ⟨wi, rfl⟩ : ∃ wi : World, wi = wr := ⟨_, rfl⟩
              have keyi : ∀ q v, wo.cell? q = some v → wi.cell? q = some v := fun q v hq => by rw [hbi.cell (p := q) (World.block_lt_of_cell? wo q hq)]; exact hq
              have f3 := keyi _ _ c3
              by_cases hjt : j < d.rn
              · obtain ⟨rb, rfl, q2, q3, q4, q5⟩ := HF.out.resolve_left (by omega)
                obtain ⟨rb0, ro, hra, hcs⟩ := HRR.out.resolve_left (by omega)
                obtain ⟨e1, e2⟩ := hcs j hjt
                obtain ⟨l1, l2⟩ := HInr.out j hjt
                obtain ⟨L, hL⟩ := Int.eq_ofNat_of_zero_le l1
                rw [hL] at l2 e1
                obtain ⟨lk, g1, g2, g3⟩ := HL.out L (by omega)
                have lkB : lk < wo.heap.size := World.block_lt_of_cell? wo _ g2
                have e1 := keyi _ _ e1
                have e2 := keyi _ _ e2
                have g1 := keyi _ _ g1
                have g2 := keyi _ _ g2
                rw [hra] at f3
                obtain ⟨⟨v0, hv0⟩, z0⟩ := q4 (j * 2) (by omega)
                obtain ⟨⟨v1, hv1⟩, z1⟩ := q4 (j * 2 + 1) (by omega)
                have n1 : b ≠ rb := by have := World.block_lt_of_cell? wo _ c3; simp at this; omega
                have n2 : rb0 ≠ rb := by have := World.block_lt_of_cell? wo _ (hcs j hjt).1; simp at this; omega
                have n3 : w.heap.size ≠ rb := by omega
                have HQ := Lib.hid q5
                have HQ4 := Lib.hid q4
                obtain ⟨C, hC⟩ : ∃ C, C = d.cost j := ⟨_, rfl⟩
                rw [← hC] at e2
                have i1 : (0 : Int) ≤ (L : Int) := by omega
                have i2 : (L : Int) < (nl : Int) := by omega
                have i3 : (0 : Int) ≤ (j : Int) := by omega
                have i4 : (j : Int) < (d.rn : Int) := by omega
                have i5 : (0 : Int) ≤ (k : Int) := by omega
                have i6 : (k : Int) < (n : Int) := by omega
                have K1 := Lib.hid f3
                have K2 := Lib.hid e1
                have K3 := Lib.hid e2
                have K4 := Lib.hid g1
                have N1 := Lib.hid n1
                have N2 := Lib.hid n2
                have N3 := Lib.hid n3
                clear hcs hra hC hL q5 q4 keyi c0 c1 c2 c3 HF n1 n2 n3
                go_wp2_with fail
                go_region_held3 (fun w' => w'.cell? ⟨b, o + k * 4 + 3, none⟩ = some (.slice (some ⟨rb0, ro, none⟩) d.rn d.rc) ∧ w'.cell? ⟨rb0, ro + j * 2, none⟩ = some (.int .i64 L) ∧ w'.cell? ⟨rb0, ro + j * 2 + 1, none⟩ = some (.int .i64 C) ∧ w'.cell? ⟨w.heap.size, L, none⟩ = some (.pointer (some ⟨lk, 0, none⟩))) (first | exact ⟨set2_cell K1.out N1.out, set2_cell K2.out N2.out, set2_cell K3.out N2.out, set2_cell K4.out N3.out⟩ | go_keep) (fail)
                go_wp2
                go_roundw
                case rel => exact ⟨j + 1, by omega, by go_num, ((hbi.setCell q2 _).setCell q2 _).drew, (RtFill.step q2 q3 HQ4.out HQ.out hjt g2 g3 lkB (by omega)).drew⟩
                case measure => simp [intOf]; omega
              · obtain rfl : j = d.rn := by omega
                have f0 := keyi _ _ c0
                have f1 := keyi _ _ c1
                have f2 := keyi _ _ c2
                obtain ⟨⟨v0, hv0⟩, z0⟩ := (HT.out.below hbi hls) k hlt
                have n1 : b ≠ pb := by have := World.block_lt_of_cell? w _ (HB0.out); simp at this; omega
                have K0 := Lib.hid f0
                have K1 := Lib.hid f1
                have K2 := Lib.hid f2
                have N1 := Lib.hid n1
                have hpi : pb < wi.heap.size := Nat.lt_of_lt_of_le hls hbi.size
                have i5 : (0 : Int) ≤ (k : Int) := by omega
                have i6 : (k : Int) < (n : Int) := by omega
                clear keyi c0 c1 c2 c3 n1
                go_wp2_with fail
                go_region_held3 (fun w' => w'.cell? ⟨b, o + k * 4, none⟩ = some (.int .u8 d.kind) ∧ w'.cell? ⟨b, o + k * 4 + 1, none⟩ = some (.int .u32 d.pc) ∧ w'.cell? ⟨b, o + k * 4 + 2, none⟩ = some (.bool d.nc)) (first | exact ⟨alloc_cell K0.out, alloc_cell K1.out, alloc_cell K2.out⟩ | exact ⟨set_alloc_cell K0.out N1.out, set_alloc_cell K1.out N1.out, set_alloc_cell K2.out N1.out⟩ | go_keep) (fail)
                go_wp2
                go_roundw
                case rel =>
                  obtain ⟨pdf, hP⟩ := HP.out
                  have hbw : Below w.heap.size w wi := hbr.trans (hbi.mono (by omega))
                  have hs : (wi.setCell ⟨pb, k, none⟩ (.pointer (some ⟨wi.heap.size, 0, none⟩))).heap.size = wi.heap.size := by simp
                  have hPi : PdsAt wi pb nl ds pdf k := hP.same (below_cells hbi (Nat.le_refl _))
                  have hTi := HT.out.below hbi hls
                  have hRt := HF.out.routes hls
                  have hstep := PdsAt.step (ra := ra) (c5 := .int .i64 ((k : Int) + 1)) hPi hTi hlt hkl hpi (by rw [HDK.out]; exact hRt)
                  rw [HDK.out] at hstep
                  refine ⟨k + 1, by omega, by go_num, ((hbw.setCell (by simp; omega) _).alloc (by rw [hs]; exact hbw.size) _).drew, (hTi.set _ _).alloc (by rw [hs]; exact hpi) _, by simp; omega, ?_, _, hstep⟩
                  exact (HL.out.same (by omega) (Same.below hbi (Nat.le_refl _))).same (by omega) ((Same.setAt _).trans (Same.alloc _))
                case measure => simp [intOf]; omega
        · obtain rfl : n = k := by omega
          obtain ⟨pdf, hP⟩ := HP.out
          have hnl' : n = ds.length := HS.out.1
          have HNL := Lib.hid hnl'
          have HPP := Lib.hid hP
          clear hnl' hP
          go_wp2
          go_ret
          refine ⟨wr.heap.size, pdf, rfl, ⟨w.heap.size, pb, ?_, ?_, ?_⟩, hbr.alloc hbr.size _⟩
          · rw [cell_new rfl]; rfl
          · rw [cell_new rfl, ← HNL.out]; rfl
          · rw [← HNL.out]; exact HPP.out.same (below_cells ((Below.refl wr.heap.size wr).alloc (Nat.le_refl _) _) (Nat.le_refl _))
end Go.Proofs.Qxb6613577a
