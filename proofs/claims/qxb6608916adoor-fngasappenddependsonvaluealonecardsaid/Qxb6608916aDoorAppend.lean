import Derived.Test.Qxb6608916aDoorShelf
import Derived.Test.Qxb6608916aDoorNum
import Derived.Lib.AppendIntMem
import Derived.Lib.ItoaLen
import Derived.Lib.Slices
import Derived.Lib.Hide
import Derived.OwnWalk
import Derived.WalkKit
import Derived.BigCall
import Derived.RegionTactic
namespace Go.Proofs.Qxb6608916aDoor
open Go.RowKit Go.Shelf
set_option linter.unusedVariables false

theorem infoByte : (Tryd.prog.info? 5).map (fun i => (i.zero, i.size, i.bytes)) = some (some (.int .u8 0), 1, 1) := by kernel_rfl

def ucells (l : List Int) : List Value := l.map (Value.int .u8)

theorem fin_row {wr : World} {v : Value} {B m j : Nat} {xs : List Value} {W F : Int} (ho : wr.ownsRow B 5 1 v (m + (Lib.itoa W).length + 1 + j) (xs ++ Lib.byteCells (Lib.itoa W) ++ [.int .u8 46] ++ ucells (digsAt F j)))
    (hF : ¬ F = 0) (hj : j ≤ 3) (hz : fracAt F j = 0) (h : Hid (j = 0 ∨ fracAt F (j - 1) ≠ 0)) : wr.ownsRow B 5 1 v (m + (Lib.itoa W).length + (fbytes F).length) (xs ++ Lib.byteCells (Lib.itoa W) ++ ucells (fbytes F)) := by
  obtain ⟨e1, e2⟩ := fbytes_at F j hF hj hz h.out
  rw [e1, e2]
  simpa [ucells, Nat.add_assoc] using ho

theorem next_row {wr : World} {v : Value} {B m j : Nat} {xs : List Value} {W F d : Int} (ho : wr.ownsRow B 5 1 v (m + (Lib.itoa W).length + 1 + j + 1) (xs ++ Lib.byteCells (Lib.itoa W) ++ [.int .u8 46] ++ ucells (digsAt F j) ++ [.int .u8 d]))
    (h : digsAt F (j + 1) = digsAt F j ++ [d]) : wr.ownsRow B 5 1 v (m + (Lib.itoa W).length + 1 + (j + 1)) (xs ++ Lib.byteCells (Lib.itoa W) ++ [.int .u8 46] ++ ucells (digsAt F (j + 1))) := by
  rw [h]
  simpa [ucells, Nat.add_assoc] using ho

set_option maxHeartbeats 4000000 in
set_option maxRecDepth 100000 in
theorem ar_3 (n per W F : Int) (B m : Nat) (sv : Value) (xs : List Value) (w : World) (hn : 0 ≤ n) (hn2 : n ≤ 9223372036854775807) (hp : 0 < per) (hp2 : per ≤ 9223372036854775)
    (r0 : 0 ≤ n % per) (r1 : n % per < per) (q0 : 0 ≤ n % per * 1000 / per) (q1 : n % per * 1000 / per < 1000) (l0 : 0 ≤ n % per * 1000 % per) (l1 : n % per * 1000 % per < per)
    (w0 : 0 ≤ n / per) (w1 : n / per ≤ 9223372036854775807) (c1 : n % per * 1000 % per < per - n % per * 1000 % per)
    (HW : Hid (W = n / per)) (HF : Hid (F = n % per * 1000 / per))
    (hown : w.ownsRow B 5 1 sv m xs) (hB : B ≤ w.heap.size) (hm : m + 100 ≤ 140737488355328) (hT : Lib.TabBelow Tryd.prog B w tabName .u64 Lib.pow10Tab) :
    Calls Tryd.prog 14 #[sv, .int .i64 n, .int .i64 per, .int .i64 3] w fun e w' => ∃ v', e = .returned v' ∧ w'.ownsRow B 5 1 v' (m + (Lib.itoa W).length + (fbytes F).length) (xs ++ Lib.byteCells (Lib.itoa W) ++ ucells (fbytes F)) ∧ Below B w w' := by
  have c2 : (n % per * 1000 / per == 1000) = false := by simp; omega
  have hp0 : ¬ per = 0 := by omega
  go_enter Tryd.func14, Tryd.ntmps14
  go_wp2
  go_loop [9, 15] (fun u i => ∃ j : Nat, j ≤ 3 ∧ u = .int .i64 (10 ^ j) ∧ i = .int .i64 j) (fun _ i => 3 - (intOf i).toNat)
  case atStart => exact ⟨0, Nat.zero_le _, rfl, rfl⟩
  case round =>
    obtain ⟨j, hj, rfl, rfl⟩ := hrel
    have hj4 : j = 0 ∨ j = 1 ∨ j = 2 ∨ j = 3 := by omega
    rcases hj4 with rfl | rfl | rfl | rfl
    · go_wp2
      go_round
      case rel => exact ⟨1, by omega, rfl, rfl⟩
      case measure => simp [intOf]
    · go_wp2
      go_round
      case rel => exact ⟨2, by omega, rfl, rfl⟩
      case measure => simp [intOf]
    · go_wp2
      go_round
      case rel => exact ⟨3, by omega, rfl, rfl⟩
      case measure => simp [intOf]
    · go_wp2
      go_region
      go_wp2
      go_region
      rw [← HW.out, ← HF.out]
      rw [← HW.out] at w0 w1
      rw [← HF.out] at q0 q1 c2
      have la := Lib.itoa_length_le W (by omega) w1
      go_wp2_with (go_at_call 15; refine (Tryd.strconv_AppendInt_10 B m W (by omega) w1 sv xs w.drew.drew hown hB (by omega) (hT.on (Below.refl _ _).drew.drew)).mono ?_; rintro e w2 ⟨v1, rfl, hown1, hnx1, -⟩; refine Hid.out ?_)
      refine Lib.hid ?_
      have hb1 : Below B w w2 := ((Below.refl B w).drew.drew).trans hnx1
      have hs1 := hb1.size
      by_cases hF : F = 0
      · have hF' : (F == 0) = true := by simp [hF]
        have HZ : Hid (fbytes F = []) := by show fbytes F = []; unfold fbytes; rw [if_pos hF]
        clear hF
        go_wp2
        go_ret
        exact ⟨v1, rfl, by rw [HZ.out]; simpa [ucells] using hown1, hb1⟩
      · have hF' : (F == 0) = false := by simp [hF]
        obtain ⟨i0, hi, hz0, hz1, hz2⟩ := info_parts infoByte
        go_wp2_with (at_builtin; refine wpList_append_own _ rfl _ _ 22 rfl B 5 i0 (.int .u8 0) 1 1 Tryd.underlying22 hi hz0 hz1 hz2 rfl (by decide) _ _ _ rfl (hown1.alloc _) ⟨w2.heap.size, 0, none⟩ 1 1 [Value.int .u8 46] rfl rfl (by intro j u' hj; match j, hj with | 0, hj => simp at hj; subst hj; simp [Addr.add]) (by intro u' hu'; simp at hu'; subst hu'; rfl) (by unfold maxLen; omega) (by omega) (by simp; omega) ?_; intro v2 w3 hown2 hgrow2 _; refine Hid.out ?_)
        refine Lib.hid ?_
        have hb2 : Below B w w3 := (hb1.alloc (by omega) _).grown hgrow2 (by simp; omega) (fun k hk => (hown1.lt k hk).1)
        go_wp2
        go_loopw [0, 9, 12] (fun b u f wr => ∃ (j : Nat) (v : Value), j ≤ 3 ∧ b = v ∧ u = .int .i64 (unitAt j) ∧ f = .int .i64 (fracAt F j) ∧ wr.ownsRow B 5 1 v (m + (Lib.itoa W).length + 1 + j) (xs ++ Lib.byteCells (Lib.itoa W) ++ [.int .u8 46] ++ ucells (digsAt F j)) ∧ Below B w wr ∧ Hid (j = 0 ∨ fracAt F (j - 1) ≠ 0)) (fun _ u _ _ => (intOf u).toNat)
        case atStart => exact ⟨0, v2, by omega, rfl, rfl, rfl, by simpa [ucells, digsAt] using hown2, hb2, Or.inl rfl⟩
        case round =>
          obtain ⟨j, v, hj, rfl, rfl, rfl, ho, hbr, HJ⟩ := hrel
          clear hown1 hown2 hgrow2 hnx1 hb1 hb2
          have hsr := hbr.size
          have hj4 : j = 0 ∨ j = 1 ∨ j = 2 ∨ j = 3 := by omega
          rcases hj4 with rfl | rfl | rfl | rfl
          · simp only [unitAt, fracAt]
            have hz' : (F != 0) = true := by simp [hF]
            go_wp2_with (at_builtin; refine wpList_append_own _ rfl _ _ 22 rfl B 5 i0 (.int .u8 0) 1 1 Tryd.underlying22 hi hz0 hz1 hz2 rfl (by decide) _ _ _ rfl (ho.alloc _) ⟨wr.heap.size, 0, none⟩ 1 1 [Value.int .u8 (48 + F / 100)] rfl rfl (by intro j u' hj; match j, hj with | 0, hj => simp at hj; subst hj; simp [Addr.add]) (by intro u' hu'; simp at hu'; subst hu'; rfl) (by unfold maxLen; omega) (by omega) (by simp; omega) ?_; intro v3 w4 hown3 hgrow3 _; refine Hid.out ?_)
            refine Lib.hid ?_
            have hb3 : Below B w w4 := (hbr.alloc (by omega) _).grown hgrow3 (by simp; omega) (fun k hk => (ho.lt k hk).1)
            have hown4 := next_row hown3 (show digsAt F 1 = digsAt F 0 ++ [48 + F / 100] from rfl)
            clear hown3 hgrow3 ho hbr
            go_wp2
            go_roundw
            case rel => exact ⟨1, v3, by omega, rfl, rfl, rfl, hown4, hb3, Or.inr hF⟩
            case measure => simp [intOf]
          · simp only [unitAt, fracAt]
            by_cases hz : F % 100 = 0
            · have hz' : (F % 100 != 0) = false := by rw [hz]; rfl
              have hfin := fin_row ho hF (by omega) (show fracAt F 1 = 0 from hz) HJ
              clear hz
              go_wp2
              go_ret
              exact ⟨_, rfl, hfin, hbr⟩
            · have hz' : (F % 100 != 0) = true := bne_iff_ne.2 hz
              go_wp2_with (at_builtin; refine wpList_append_own _ rfl _ _ 22 rfl B 5 i0 (.int .u8 0) 1 1 Tryd.underlying22 hi hz0 hz1 hz2 rfl (by decide) _ _ _ rfl (ho.alloc _) ⟨wr.heap.size, 0, none⟩ 1 1 [Value.int .u8 (48 + F % 100 / 10)] rfl rfl (by intro j u' hj; match j, hj with | 0, hj => simp at hj; subst hj; simp [Addr.add]) (by intro u' hu'; simp at hu'; subst hu'; rfl) (by unfold maxLen; omega) (by omega) (by simp; omega) ?_; intro v3 w4 hown3 hgrow3 _; refine Hid.out ?_)
              refine Lib.hid ?_
              have hb3 : Below B w w4 := (hbr.alloc (by omega) _).grown hgrow3 (by simp; omega) (fun k hk => (ho.lt k hk).1)
              have hown4 := next_row hown3 (show digsAt F 2 = digsAt F 1 ++ [48 + F % 100 / 10] from rfl)
              clear hown3 hgrow3 ho hbr
              go_wp2
              go_roundw
              case rel => exact ⟨2, v3, by omega, rfl, rfl, rfl, hown4, hb3, Or.inr hz⟩
              case measure => simp [intOf]
          · simp only [unitAt, fracAt]
            by_cases hz : F % 100 % 10 = 0
            · have hz' : (F % 100 % 10 != 0) = false := by rw [hz]; rfl
              have hfin := fin_row ho hF (by omega) (show fracAt F 2 = 0 from hz) HJ
              clear hz
              go_wp2
              go_ret
              exact ⟨_, rfl, hfin, hbr⟩
            · have hz' : (F % 100 % 10 != 0) = true := bne_iff_ne.2 hz
              go_wp2_with (at_builtin; refine wpList_append_own _ rfl _ _ 22 rfl B 5 i0 (.int .u8 0) 1 1 Tryd.underlying22 hi hz0 hz1 hz2 rfl (by decide) _ _ _ rfl (ho.alloc _) ⟨wr.heap.size, 0, none⟩ 1 1 [Value.int .u8 (48 + F % 100 % 10)] rfl rfl (by intro j u' hj; match j, hj with | 0, hj => simp at hj; subst hj; simp [Addr.add]) (by intro u' hu'; simp at hu'; subst hu'; rfl) (by unfold maxLen; omega) (by omega) (by simp; omega) ?_; intro v3 w4 hown3 hgrow3 _; refine Hid.out ?_)
              refine Lib.hid ?_
              have hb3 : Below B w w4 := (hbr.alloc (by omega) _).grown hgrow3 (by simp; omega) (fun k hk => (ho.lt k hk).1)
              have hown4 := next_row hown3 (show digsAt F 3 = digsAt F 2 ++ [48 + F % 100 % 10] from rfl)
              clear hown3 hgrow3 ho hbr
              go_wp2
              go_roundw
              case rel => exact ⟨3, v3, by omega, rfl, rfl, rfl, hown4, hb3, Or.inr hz⟩
              case measure => simp [intOf]
          · simp only [unitAt, fracAt]
            have hfin := fin_row ho hF (by omega) (show fracAt F 3 = 0 from rfl) HJ
            go_wp2
            go_ret
            exact ⟨_, rfl, hfin, hbr⟩

set_option maxHeartbeats 4000000 in
set_option maxRecDepth 100000 in
theorem ar_2 (n per W F : Int) (B m : Nat) (sv : Value) (xs : List Value) (w : World) (hn : 0 ≤ n) (hn2 : n ≤ 9223372036854775807) (hp : 0 < per) (hp2 : per ≤ 9223372036854775)
    (r0 : 0 ≤ n % per) (r1 : n % per < per) (q0 : 0 ≤ n % per * 1000 / per) (q1 : n % per * 1000 / per < 1000) (l0 : 0 ≤ n % per * 1000 % per) (l1 : n % per * 1000 % per < per)
    (w0 : 0 ≤ n / per) (w1 : n / per ≤ 9223372036854775807) (c1 : per - n % per * 1000 % per ≤ n % per * 1000 % per) (f1 : F < 1000)
    (HW : Hid (W = n / per)) (HF : Hid (F = n % per * 1000 / per + 1))
    (hown : w.ownsRow B 5 1 sv m xs) (hB : B ≤ w.heap.size) (hm : m + 100 ≤ 140737488355328) (hT : Lib.TabBelow Tryd.prog B w tabName .u64 Lib.pow10Tab) :
    Calls Tryd.prog 14 #[sv, .int .i64 n, .int .i64 per, .int .i64 3] w fun e w' => ∃ v', e = .returned v' ∧ w'.ownsRow B 5 1 v' (m + (Lib.itoa W).length + (fbytes F).length) (xs ++ Lib.byteCells (Lib.itoa W) ++ ucells (fbytes F)) ∧ Below B w w' := by
  have c2 : (n % per * 1000 / per + 1 == 1000) = false := by rw [← HF.out]; simp; omega
  have f0 : 0 ≤ F := by rw [HF.out]; omega
  have hp0 : ¬ per = 0 := by omega
  go_enter Tryd.func14, Tryd.ntmps14
  go_wp2
  go_loop [9, 15] (fun u i => ∃ j : Nat, j ≤ 3 ∧ u = .int .i64 (10 ^ j) ∧ i = .int .i64 j) (fun _ i => 3 - (intOf i).toNat)
  case atStart => exact ⟨0, Nat.zero_le _, rfl, rfl⟩
  case round =>
    obtain ⟨j, hj, rfl, rfl⟩ := hrel
    have hj4 : j = 0 ∨ j = 1 ∨ j = 2 ∨ j = 3 := by omega
    rcases hj4 with rfl | rfl | rfl | rfl
    · go_wp2
      go_round
      case rel => exact ⟨1, by omega, rfl, rfl⟩
      case measure => simp [intOf]
    · go_wp2
      go_round
      case rel => exact ⟨2, by omega, rfl, rfl⟩
      case measure => simp [intOf]
    · go_wp2
      go_round
      case rel => exact ⟨3, by omega, rfl, rfl⟩
      case measure => simp [intOf]
    · go_wp2
      go_region
      go_wp2
      go_region
      go_wp2_with fail
      rw [← HW.out, ← HF.out]
      rw [← HW.out] at w0 w1
      have la := Lib.itoa_length_le W (by omega) w1
      refine (Tryd.strconv_AppendInt_10 B m W (by omega) w1 sv xs w.drew.drew hown hB (by omega) (hT.on (Below.refl _ _).drew.drew)).mono ?_
      rintro e w2 ⟨v1, rfl, hown1, hnx1, -⟩
      have hb1 : Below B w w2 := ((Below.refl B w).drew.drew).trans hnx1
      have hs1 := hb1.size
      by_cases hF : F = 0
      · have hF' : (F == 0) = true := by simp [hF]
        have HZ : Hid (fbytes F = []) := by show fbytes F = []; unfold fbytes; rw [if_pos hF]
        clear hF
        go_wp2
        go_ret
        exact ⟨v1, rfl, by rw [HZ.out]; simpa [ucells] using hown1, hb1⟩
      · have hF' : (F == 0) = false := by simp [hF]
        obtain ⟨i0, hi, hz0, hz1, hz2⟩ := info_parts infoByte
        go_wp2_with (at_builtin; refine wpList_append_own _ rfl _ _ 22 rfl B 5 i0 (.int .u8 0) 1 1 Tryd.underlying22 hi hz0 hz1 hz2 rfl (by decide) _ _ _ rfl (hown1.alloc _) ⟨w2.heap.size, 0, none⟩ 1 1 [Value.int .u8 46] rfl rfl (by intro j u' hj; match j, hj with | 0, hj => simp at hj; subst hj; simp [Addr.add]) (by intro u' hu'; simp at hu'; subst hu'; rfl) (by unfold maxLen; omega) (by omega) (by simp; omega) ?_; intro v2 w3 hown2 hgrow2 _; refine Hid.out ?_)
        refine Lib.hid ?_
        have hb2 : Below B w w3 := (hb1.alloc (by omega) _).grown hgrow2 (by simp; omega) (fun k hk => (hown1.lt k hk).1)
        go_wp2
        go_loopw [0, 9, 12] (fun b u f wr => ∃ (j : Nat) (v : Value), j ≤ 3 ∧ b = v ∧ u = .int .i64 (unitAt j) ∧ f = .int .i64 (fracAt F j) ∧ wr.ownsRow B 5 1 v (m + (Lib.itoa W).length + 1 + j) (xs ++ Lib.byteCells (Lib.itoa W) ++ [.int .u8 46] ++ ucells (digsAt F j)) ∧ Below B w wr ∧ Hid (j = 0 ∨ fracAt F (j - 1) ≠ 0)) (fun _ u _ _ => (intOf u).toNat)
        case atStart => exact ⟨0, v2, by omega, rfl, rfl, rfl, by simpa [ucells, digsAt] using hown2, hb2, Or.inl rfl⟩
        case round =>
          obtain ⟨j, v, hj, rfl, rfl, rfl, ho, hbr, HJ⟩ := hrel
          clear hown1 hown2 hgrow2 hnx1 hb1 hb2
          have hsr := hbr.size
          have hj4 : j = 0 ∨ j = 1 ∨ j = 2 ∨ j = 3 := by omega
          rcases hj4 with rfl | rfl | rfl | rfl
          · simp only [unitAt, fracAt]
            have hz' : (F != 0) = true := by simp [hF]
            go_wp2_with (at_builtin; refine wpList_append_own _ rfl _ _ 22 rfl B 5 i0 (.int .u8 0) 1 1 Tryd.underlying22 hi hz0 hz1 hz2 rfl (by decide) _ _ _ rfl (ho.alloc _) ⟨wr.heap.size, 0, none⟩ 1 1 [Value.int .u8 (48 + F / 100)] rfl rfl (by intro j u' hj; match j, hj with | 0, hj => simp at hj; subst hj; simp [Addr.add]) (by intro u' hu'; simp at hu'; subst hu'; rfl) (by unfold maxLen; omega) (by omega) (by simp; omega) ?_; intro v3 w4 hown3 hgrow3 _; refine Hid.out ?_)
            refine Lib.hid ?_
            have hb3 : Below B w w4 := (hbr.alloc (by omega) _).grown hgrow3 (by simp; omega) (fun k hk => (ho.lt k hk).1)
            have hown4 := next_row hown3 (show digsAt F 1 = digsAt F 0 ++ [48 + F / 100] from rfl)
            clear hown3 hgrow3 ho hbr
            go_wp2
            go_roundw
            case rel => exact ⟨1, v3, by omega, rfl, rfl, rfl, hown4, hb3, Or.inr hF⟩
            case measure => simp [intOf]
          · simp only [unitAt, fracAt]
            by_cases hz : F % 100 = 0
            · have hz' : (F % 100 != 0) = false := by rw [hz]; rfl
              have hfin := fin_row ho hF (by omega) (show fracAt F 1 = 0 from hz) HJ
              clear hz
              go_wp2
              go_ret
              exact ⟨_, rfl, hfin, hbr⟩
            · have hz' : (F % 100 != 0) = true := bne_iff_ne.2 hz
              go_wp2_with (at_builtin; refine wpList_append_own _ rfl _ _ 22 rfl B 5 i0 (.int .u8 0) 1 1 Tryd.underlying22 hi hz0 hz1 hz2 rfl (by decide) _ _ _ rfl (ho.alloc _) ⟨wr.heap.size, 0, none⟩ 1 1 [Value.int .u8 (48 + F % 100 / 10)] rfl rfl (by intro j u' hj; match j, hj with | 0, hj => simp at hj; subst hj; simp [Addr.add]) (by intro u' hu'; simp at hu'; subst hu'; rfl) (by unfold maxLen; omega) (by omega) (by simp; omega) ?_; intro v3 w4 hown3 hgrow3 _; refine Hid.out ?_)
              refine Lib.hid ?_
              have hb3 : Below B w w4 := (hbr.alloc (by omega) _).grown hgrow3 (by simp; omega) (fun k hk => (ho.lt k hk).1)
              have hown4 := next_row hown3 (show digsAt F 2 = digsAt F 1 ++ [48 + F % 100 / 10] from rfl)
              clear hown3 hgrow3 ho hbr
              go_wp2
              go_roundw
              case rel => exact ⟨2, v3, by omega, rfl, rfl, rfl, hown4, hb3, Or.inr hz⟩
              case measure => simp [intOf]
          · simp only [unitAt, fracAt]
            by_cases hz : F % 100 % 10 = 0
            · have hz' : (F % 100 % 10 != 0) = false := by rw [hz]; rfl
              have hfin := fin_row ho hF (by omega) (show fracAt F 2 = 0 from hz) HJ
              clear hz
              go_wp2
              go_ret
              exact ⟨_, rfl, hfin, hbr⟩
            · have hz' : (F % 100 % 10 != 0) = true := bne_iff_ne.2 hz
              go_wp2_with (at_builtin; refine wpList_append_own _ rfl _ _ 22 rfl B 5 i0 (.int .u8 0) 1 1 Tryd.underlying22 hi hz0 hz1 hz2 rfl (by decide) _ _ _ rfl (ho.alloc _) ⟨wr.heap.size, 0, none⟩ 1 1 [Value.int .u8 (48 + F % 100 % 10)] rfl rfl (by intro j u' hj; match j, hj with | 0, hj => simp at hj; subst hj; simp [Addr.add]) (by intro u' hu'; simp at hu'; subst hu'; rfl) (by unfold maxLen; omega) (by omega) (by simp; omega) ?_; intro v3 w4 hown3 hgrow3 _; refine Hid.out ?_)
              refine Lib.hid ?_
              have hb3 : Below B w w4 := (hbr.alloc (by omega) _).grown hgrow3 (by simp; omega) (fun k hk => (ho.lt k hk).1)
              have hown4 := next_row hown3 (show digsAt F 3 = digsAt F 2 ++ [48 + F % 100 % 10] from rfl)
              clear hown3 hgrow3 ho hbr
              go_wp2
              go_roundw
              case rel => exact ⟨3, v3, by omega, rfl, rfl, rfl, hown4, hb3, Or.inr hz⟩
              case measure => simp [intOf]
          · simp only [unitAt, fracAt]
            have hfin := fin_row ho hF (by omega) (show fracAt F 3 = 0 from rfl) HJ
            go_wp2
            go_ret
            exact ⟨_, rfl, hfin, hbr⟩

set_option maxHeartbeats 4000000 in
set_option maxRecDepth 100000 in
theorem ar_1 (n per W : Int) (B m : Nat) (sv : Value) (xs : List Value) (w : World) (hn : 0 ≤ n) (hn2 : n ≤ 9223372036854775807) (hp : 0 < per) (hp2 : per ≤ 9223372036854775)
    (r0 : 0 ≤ n % per) (r1 : n % per < per) (q0 : 0 ≤ n % per * 1000 / per) (q1 : n % per * 1000 / per < 1000) (l0 : 0 ≤ n % per * 1000 % per) (l1 : n % per * 1000 % per < per)
    (w0 : 0 ≤ n / per) (w1 : n / per + 1 ≤ 9223372036854775807) (c1 : per - n % per * 1000 % per ≤ n % per * 1000 % per) (c3 : (n % per * 1000 / per + 1 == 1000) = true)
    (HW : Hid (W = n / per + 1))
    (hown : w.ownsRow B 5 1 sv m xs) (hB : B ≤ w.heap.size) (hm : m + 100 ≤ 140737488355328) (hT : Lib.TabBelow Tryd.prog B w tabName .u64 Lib.pow10Tab) :
    Calls Tryd.prog 14 #[sv, .int .i64 n, .int .i64 per, .int .i64 3] w fun e w' => ∃ v', e = .returned v' ∧ w'.ownsRow B 5 1 v' (m + (Lib.itoa W).length + (fbytes 0).length) (xs ++ Lib.byteCells (Lib.itoa W) ++ ucells (fbytes 0)) ∧ Below B w w' := by
  have hp0 : ¬ per = 0 := by omega
  go_enter Tryd.func14, Tryd.ntmps14
  go_wp2
  go_loop [9, 15] (fun u i => ∃ j : Nat, j ≤ 3 ∧ u = .int .i64 (10 ^ j) ∧ i = .int .i64 j) (fun _ i => 3 - (intOf i).toNat)
  case atStart => exact ⟨0, Nat.zero_le _, rfl, rfl⟩
  case round =>
    obtain ⟨j, hj, rfl, rfl⟩ := hrel
    have hj4 : j = 0 ∨ j = 1 ∨ j = 2 ∨ j = 3 := by omega
    rcases hj4 with rfl | rfl | rfl | rfl
    · go_wp2
      go_round
      case rel => exact ⟨1, by omega, rfl, rfl⟩
      case measure => simp [intOf]
    · go_wp2
      go_round
      case rel => exact ⟨2, by omega, rfl, rfl⟩
      case measure => simp [intOf]
    · go_wp2
      go_round
      case rel => exact ⟨3, by omega, rfl, rfl⟩
      case measure => simp [intOf]
    · go_wp2
      go_region
      go_wp2
      go_region
      go_wp2_with fail
      rw [← HW.out]
      have W0 : 0 ≤ W := by rw [HW.out]; omega
      rw [← HW.out] at w1
      have la := Lib.itoa_length_le W (by omega) w1
      refine (Tryd.strconv_AppendInt_10 B m W (by omega) w1 sv xs w.drew.drew hown hB (by omega) (hT.on (Below.refl _ _).drew.drew)).mono ?_
      rintro e w2 ⟨v1, rfl, hown1, hnx1, -⟩
      have hb1 : Below B w w2 := ((Below.refl B w).drew.drew).trans hnx1
      have hs1 := hb1.size
      have HZ : Hid (fbytes 0 = []) := rfl
      go_wp2
      go_ret
      exact ⟨v1, rfl, by rw [HZ.out]; simpa [ucells] using hown1, hb1⟩

/-- 'appendRounded' to three decimals: the row grows by the rounded value's text. -/
theorem ar_any (n per : Int) (B m : Nat) (sv : Value) (xs : List Value) (w : World) (hn : 0 ≤ n) (hn2 : n ≤ 9223372036854775807) (hp : 0 < per) (hp2 : per ≤ 9223372036854775)
    (hown : w.ownsRow B 5 1 sv m xs) (hB : B ≤ w.heap.size) (hm : m + 100 ≤ 140737488355328) (hT : Lib.TabBelow Tryd.prog B w tabName .u64 Lib.pow10Tab) :
    Calls Tryd.prog 14 #[sv, .int .i64 n, .int .i64 per, .int .i64 3] w fun e w' => ∃ v', e = .returned v' ∧ w'.ownsRow B 5 1 v' (m + (Lib.itoa (gW n per)).length + (fbytes (gF n per)).length) (xs ++ Lib.byteCells (Lib.itoa (gW n per)) ++ ucells (fbytes (gF n per))) ∧ Below B w w' := by
  have r0 := Int.emod_nonneg n (show per ≠ 0 by omega)
  have r1 := Int.emod_lt_of_pos n hp
  have l0 := Int.emod_nonneg (n % per * 1000) (show per ≠ 0 by omega)
  have l1 := Int.emod_lt_of_pos (n % per * 1000) hp
  have q0 : 0 ≤ n % per * 1000 / per := Int.ediv_nonneg (by omega) (by omega)
  have q1 : n % per * 1000 / per < 1000 := Int.ediv_lt_of_lt_mul hp (by
    have : n % per * 1000 < per * 1000 := by omega
    rw [Int.mul_comm 1000 per]; exact this)
  have w0 : 0 ≤ n / per := Int.ediv_nonneg hn (by omega)
  have w1 : n / per ≤ 9223372036854775807 := Int.le_trans (Int.ediv_le_self _ hn) hn2
  have wb := gW_bd n per hn hn2 hp
  by_cases c1 : per - n % per * 1000 % per ≤ n % per * 1000 % per
  · have eK : gk n per = n % per * 1000 / per + 1 := by unfold gk; rw [if_pos c1]
    by_cases c2 : n % per * 1000 / per + 1 = 1000
    · have eW : gW n per = n / per + 1 := by unfold gW; rw [eK, if_pos c2]
      have eF : gF n per = 0 := by unfold gF; rw [eK, if_pos c2]
      rw [eW] at wb
      rw [eF, eW]
      exact ar_1 n per _ B m sv xs w hn hn2 hp hp2 r0 r1 q0 q1 l0 l1 w0 wb.2 c1 (by rw [c2]; rfl) rfl hown hB hm hT
    · have eW : gW n per = n / per := by unfold gW; rw [eK, if_neg c2]
      have eF : gF n per = n % per * 1000 / per + 1 := by unfold gF; rw [eK, if_neg c2]
      rw [eF, eW]
      exact ar_2 n per _ _ B m sv xs w hn hn2 hp hp2 r0 r1 q0 q1 l0 l1 w0 w1 c1 (by omega) rfl rfl hown hB hm hT
  · have eK : gk n per = n % per * 1000 / per := by unfold gk; rw [if_neg c1]
    have eW : gW n per = n / per := by unfold gW; rw [eK, if_neg (by omega)]
    have eF : gF n per = n % per * 1000 / per := by unfold gF; rw [eK, if_neg (by omega)]
    rw [eF, eW]
    exact ar_3 n per _ _ B m sv xs w hn hn2 hp hp2 r0 r1 q0 q1 l0 l1 w0 w1 (by omega) rfl rfl hown hB hm hT
end Go.Proofs.Qxb6608916aDoor
