import Derived.Test.Qxb6608916aDoorTextOk
import Derived.Test.Qxb6608916aDoorClone
import Derived.Deep.QuietTactic
import Derived.BigQuiet
namespace Go.Proofs.Qxb6608916aDoor
open Go.RowKit Go.Shelf
set_option linter.unusedVariables false

theorem bytes_ok (p q r : Int) (a : Option Addr) (len cap : Nat) (w : World) (h : len ≤ 1048576) :
    Calls Tryd.prog 5 #[.int .i64 p, .int .i64 q, .int .i64 r, .slice a len cap] w fun e w' => e = .returned (.bool true) ∧ w = w' := by
  go_enter Tryd.func5, Tryd.ntmps5
  go_wp2
  go_ret
  exact ⟨rfl, rfl⟩
theorem bytes_no (p q r : Int) (a : Option Addr) (len cap : Nat) (w : World) (h : 1048576 < len) (h2 : len ≤ 9223372036854775807) :
    Calls Tryd.prog 5 #[.int .i64 p, .int .i64 q, .int .i64 r, .slice a len cap] w fun e w' => e = .returned (.bool false) ∧ w = w' := by
  go_enter Tryd.func5, Tryd.ntmps5
  go_wp2
  go_ret
  exact ⟨rfl, rfl⟩

/-- 'ZZgasAppend', the row written out: its address, its bytes. -/
theorem gapp (n per : Int) (B m : Nat) (sv : Value) (xl : List Int) (w : World) (N : Nat) (hN : (gall n per).length = N) (hok : gasOk n per)
    (hown : w.ownsRow B 5 1 sv m (ucells xl)) (hB : B ≤ w.heap.size) (hm : m + 100 ≤ 140737488355328) (hT : Lib.TabBelow Tryd.prog B w tabName .u64 Lib.pow10Tab) :
    Calls Tryd.prog 7 #[.agg #[.int .i64 n, .int .i64 per], sv] w fun e w' => ∃ g cap, e = .returned (.slice (some ⟨g, 0, none⟩) (m + N) cap) ∧ B ≤ g ∧ g < w'.heap.size ∧ m + N ≤ cap ∧ cap ≤ 9223372036854775807
      ∧ (∀ i, i < m + N → w'.cell? ⟨g, i, none⟩ = some (.int .u8 ((xl ++ gall n per).getD i 0))) ∧ Below B w w' := by
  subst hN
  refine (zzGasApp n per B m sv (ucells xl) w hok hown hB hm hT).mono ?_
  rintro e w' ⟨v, rfl, ho, hb⟩
  have hl := gall_len n per hok
  rw [gtxt_gall n per hok, ← ucells_app] at ho
  have e1 : (ucells (gall n per)).length = (gall n per).length := by simp [ucells]
  rw [e1] at ho
  have hlen : (xl ++ gall n per).length = m + (gall n per).length := by have := ho.1; simpa [ucells] using this
  have hlt := ho.lt
  have hcs : ∀ g, v.ownBlock = some g → ∀ j u, (ucells (xl ++ gall n per))[j]? = some u → w'.cell? ((⟨g, 0, none⟩ : Addr).add j) = some u := fun g hg => ho.cells hg
  rcases ho.2 with ⟨-, h0⟩ | ⟨g, cap, cur, rfl, hBg, -, hnc, hcm, -, -⟩
  · omega
  · refine ⟨g, cap, rfl, hBg, (hlt g rfl).2, hnc, by unfold maxLen at hcm; omega, fun i hi => ?_, hb⟩
    have := hcs g rfl i (.int .u8 ((xl ++ gall n per).getD i 0)) (by
      have : i < (xl ++ gall n per).length := by omega
      rw [ucells, List.getElem?_map, List.getElem?_eq_getElem this, List.getD, List.getElem?_eq_getElem this]; rfl)
    rw [← this, Addr.add_lit, Nat.zero_add]

theorem own_below {w w' : World} {B : Nat} {e : TypeId} {size : Nat} {v : Value} {n : Nat} {xs : List Value} (h : w.ownsRow B e size v n xs) (hb : Below w.heap.size w w') : w'.ownsRow B e size v n xs :=
  h.kept (row := none) ⟨hb.os, hb.tape, hb.output, hb.size, fun k hk _ => hb.block k hk⟩ (by cases h' : v.ownBlock <;> simp)

theorem getD_take_app (zs J : List Int) (k i : Nat) (h : k ≤ zs.length) : (zs.take k ++ J).getD (k + i) 0 = J.getD i 0 := by
  have e : (zs.take k).length = k := by simp; omega
  have := List.getElem?_append_right (l₁ := zs.take k) (l₂ := J) (i := k + i) (by omega)
  simp only [List.getD, this, e]
  rw [show k + i - k = i by omega]

set_option maxHeartbeats 4000000 in
set_option maxRecDepth 100000 in
theorem shift_zero (p r : Int) (hp1 : -9223372036854775808 ≤ p) (a : Option Addr) (len cap : Nat) (zs : List Int) (w : World) (hlen : len ≤ 1048576) (hr : 0 ≤ r) (hr2 : r ≤ 9223372036854775807) (hp2 : p ≤ 9223372036854775807)
    (hrow : Hid (IsRow .u8 w a len cap zs)) (hzs : len ≤ zs.length) (hA : len = 0 ∨ ∃ b0 off0, a = some ⟨b0, off0, none⟩ ∧ b0 < w.heap.size ∧ ∀ k, k < len → w.cell? ⟨b0, off0 + k, none⟩ = some (.int .u8 (zs.getD k 0)))
    (hT0 : Hid (Lib.TabIs Tryd.prog w tabName .u64 Lib.pow10Tab)) (ok1 : Hid (gasOk p 0)) (ok2 : Hid (gasOk (p) 0)) :
    Calls Tryd.prog 3 #[.int .i64 p, .int .i64 0, .int .i64 r, .slice a len cap] w fun e w' => e = .returned (.bool true) ∧ Below w.heap.size w w' := by
  have hT1 := Lib.hid (Lib.tabBelow_of_tabIs hT0.out)
  obtain ⟨N, HN⟩ : ∃ N, Hid ((gall p 0).length = N) := ⟨_, rfl⟩
  obtain ⟨M, HM⟩ : ∃ M, Hid ((gall p 0).length = M) := ⟨_, rfl⟩
  go_enter Tryd.func3, Tryd.ntmps3
  go_wp2_with fail
  refine (bytes_ok _ _ _ _ _ _ _ hlen).mono ?_
  rintro e w' ⟨rfl, rfl⟩
  go_wp2_with fail
  refine (clone_any a len cap zs w hrow.out hlen).mono ?_
  rintro e w1 ⟨v1, rfl, hown1, hb1⟩
  go_wp2_with fail
  refine (newGas _ _ _).mono ?_
  rintro e w2 ⟨rfl, hb2⟩
  have hown2 := own_below hown1 hb2
  have hB2 : Below w.heap.size w w2 := hb1.trans (hb2.mono hb1.size)
  clear hown1 hb2 hb1
  go_wp2_with fail
  refine (gapp p 0 w.heap.size len v1 (zs.take len) w2 N HN.out ok1.out hown2 hB2.size (by omega) (hT1.out.on hB2)).mono ?_
  rintro e w3 ⟨g1, cap1, rfl, hg1, hg1s, hnc1, hcm1, hcell1, hb3⟩
  have hB3 : Below w.heap.size w w3 := hB2.trans hb3
  clear hb3 hB2 hown2
  go_wp2_with fail
  refine (newGas _ _ _).mono ?_
  rintro e w4 ⟨rfl, hb4⟩
  have hB4 : Below w.heap.size w w4 := hB3.trans (hb4.mono hB3.size)
  go_wp2_with fail
  refine (gapp p 0 w4.heap.size 0 (.slice none 0 0) [] w4 M HM.out ok2.out (World.ownsRow_nil _ _ _ _) (Nat.le_refl _) (by omega) (Lib.tabBelow_of_tabIs (hT1.out w4 hB4))).mono ?_
  rintro e w5 ⟨g2, cap2, rfl, hg2, hg2s, hnc2, hcm2, hcell2, hb5⟩
  have hB5 : Below w.heap.size w w5 := hB4.trans (hb5.mono hB4.size)
  have hcell1' : ∀ i, i < len + N → w5.cell? ⟨g1, i, none⟩ = some (.int .u8 ((zs.take len ++ gall p 0).getD i 0)) := fun i hi => by
    rw [hb5.cell (p := ⟨g1, i, none⟩) (show g1 < w4.heap.size from Nat.lt_of_lt_of_le hg1s hb4.size), hb4.cell (p := ⟨g1, i, none⟩) hg1s]; exact hcell1 i hi
  clear hcell1 hb4 hb5 hB4 hB3
  obtain ⟨l11, l12⟩ := gall_len p 0 ok1.out
  obtain ⟨l21, l22⟩ := gall_len p 0 ok2.out
  rw [HN.out] at l11 l12
  rw [HM.out] at l21 l22
  have hz : ∀ k, k < len → (zs.take len ++ gall p 0).getD k 0 = zs.getD k 0 := fun k hk => by
    have : k < (zs.take len).length := by simp; omega
    simp [List.getD, List.getElem?_append_left this, hk]
  have d1 : decide ((1048576 : Int) < (len : Int)) = false := decide_eq_false (by omega)
  have d2 : decide (r < 0) = false := decide_eq_false (by omega)
  have d3 : decide ((len : Int) + (N : Int) < (len : Int)) = false := decide_eq_false (by omega)
  have hcl : ¬ cap1 = len := by omega
  have HZ := Lib.hid hz
  have HC1 := Lib.hid hcell1'
  have HC2 := Lib.hid hcell2
  have HA := Lib.hid hA
  clear hz hcell1' hcell2 hA
  go_wp2
  go_loopw [12] (fun i wr => ∃ (k nq : Nat), k ≤ len ∧ i = .int .i64 k ∧ wr = w5.drewN nq) (fun i _ => len - (intOf i).toNat)
  case atStart => exact ⟨0, 0, Nat.zero_le _, rfl, rfl⟩
  case round =>
    obtain ⟨k, nq, hk, rfl, rfl⟩ := hrel
    by_cases hlt : k < len
    · obtain ⟨b0, off0, rfl, hb0, hbc⟩ := HA.out.resolve_left (by omega)
      have c1 := HC1.out k (by omega)
      rw [HZ.out k hlt] at c1
      have c2 : w5.cell? ⟨b0, off0 + k, none⟩ = some (.int .u8 (zs.getD k 0)) := by rw [hB5.cell (p := ⟨b0, off0 + k, none⟩) hb0]; exact hbc k hlt
      generalize zs.getD k 0 = z at c1 c2
      clear hbc
      go_wp2
      go_region
      go_wp2
      go_roundw
      case rel => exact ⟨k + 1, nq + 1, by omega, by go_num, rfl⟩
      case measure => simp [intOf]; omega
    · obtain rfl : k = len := by omega
      have hcT : ∀ i, i < (gall p 0).length → (w5.drewN nq).cell? ⟨g1, k + i, none⟩ = some (.int .u8 ((gall p 0).getD i 0)) := fun i hi => by
        have h1 := HC1.out (k + i) (by have := HN.out; omega)
        rw [getD_take_app _ _ _ _ (by omega)] at h1
        exact h1
      have hM : M = 1 := HM.out.symm
      have c3 : w5.cell? ⟨g2, 0, none⟩ = some (.int .u8 48) := HC2.out 0 (by omega)
      subst hM
      have HT := Lib.hid (textOk g1 k (cap1 - k) N p 0 (w5.drewN nq) ok1.out HN.out.symm hcT)
      clear hcT
      go_wp2_with (go_at_call 9; refine HT.out.mono ?_; rintro e w' ⟨rfl, rfl⟩)
      go_ret
      exact ⟨rfl, ⟨hB5.os, hB5.tape, hB5.output, hB5.size, hB5.block⟩⟩

set_option maxHeartbeats 4000000 in
set_option maxRecDepth 100000 in
theorem shift_pos (p r per : Int) (hp0 : 0 ≤ p) (hper : 0 < per) (hper2 : per ≤ 9223372036854775) (hq0 : 0 ≤ (9223372036854775807 - p) / per) (hq : r ≤ (9223372036854775807 - p) / per) (hm0 : 0 ≤ r * per) (hs2 : p + r * per ≤ 9223372036854775807) (a : Option Addr) (len cap : Nat) (zs : List Int) (w : World) (hlen : len ≤ 1048576) (hr : 0 ≤ r) (hr2 : r ≤ 9223372036854775807) (hp2 : p ≤ 9223372036854775807)
    (hrow : Hid (IsRow .u8 w a len cap zs)) (hzs : len ≤ zs.length) (hA : len = 0 ∨ ∃ b0 off0, a = some ⟨b0, off0, none⟩ ∧ b0 < w.heap.size ∧ ∀ k, k < len → w.cell? ⟨b0, off0 + k, none⟩ = some (.int .u8 (zs.getD k 0)))
    (hT0 : Hid (Lib.TabIs Tryd.prog w tabName .u64 Lib.pow10Tab)) (ok1 : Hid (gasOk p per)) (ok2 : Hid (gasOk (p + r * per) per)) :
    Calls Tryd.prog 3 #[.int .i64 p, .int .i64 per, .int .i64 r, .slice a len cap] w fun e w' => e = .returned (.bool true) ∧ Below w.heap.size w w' := by
  have hT1 := Lib.hid (Lib.tabBelow_of_tabIs hT0.out)
  obtain ⟨N, HN⟩ : ∃ N, Hid ((gall p per).length = N) := ⟨_, rfl⟩
  obtain ⟨M, HM⟩ : ∃ M, Hid ((gall (p + r * per) per).length = M) := ⟨_, rfl⟩
  go_enter Tryd.func3, Tryd.ntmps3
  go_wp2_with fail
  refine (bytes_ok _ _ _ _ _ _ _ hlen).mono ?_
  rintro e w' ⟨rfl, rfl⟩
  go_wp2_with fail
  refine (clone_any a len cap zs w hrow.out hlen).mono ?_
  rintro e w1 ⟨v1, rfl, hown1, hb1⟩
  go_wp2_with fail
  refine (newGas _ _ _).mono ?_
  rintro e w2 ⟨rfl, hb2⟩
  have hown2 := own_below hown1 hb2
  have hB2 : Below w.heap.size w w2 := hb1.trans (hb2.mono hb1.size)
  clear hown1 hb2 hb1
  go_wp2_with fail
  refine (gapp p per w.heap.size len v1 (zs.take len) w2 N HN.out ok1.out hown2 hB2.size (by omega) (hT1.out.on hB2)).mono ?_
  rintro e w3 ⟨g1, cap1, rfl, hg1, hg1s, hnc1, hcm1, hcell1, hb3⟩
  have hB3 : Below w.heap.size w w3 := hB2.trans hb3
  clear hb3 hB2 hown2
  go_wp2_with fail
  refine (newGas _ _ _).mono ?_
  rintro e w4 ⟨rfl, hb4⟩
  have hB4 : Below w.heap.size w w4 := hB3.trans (hb4.mono hB3.size)
  go_wp2_with fail
  refine (gapp (p + r * per) per w4.heap.size 0 (.slice none 0 0) [] w4 M HM.out ok2.out (World.ownsRow_nil _ _ _ _) (Nat.le_refl _) (by omega) (Lib.tabBelow_of_tabIs (hT1.out w4 hB4))).mono ?_
  rintro e w5 ⟨g2, cap2, rfl, hg2, hg2s, hnc2, hcm2, hcell2, hb5⟩
  have hB5 : Below w.heap.size w w5 := hB4.trans (hb5.mono hB4.size)
  have hcell1' : ∀ i, i < len + N → w5.cell? ⟨g1, i, none⟩ = some (.int .u8 ((zs.take len ++ gall p per).getD i 0)) := fun i hi => by
    rw [hb5.cell (p := ⟨g1, i, none⟩) (show g1 < w4.heap.size from Nat.lt_of_lt_of_le hg1s hb4.size), hb4.cell (p := ⟨g1, i, none⟩) hg1s]; exact hcell1 i hi
  clear hcell1 hb4 hb5 hB4 hB3
  obtain ⟨l11, l12⟩ := gall_len p per ok1.out
  obtain ⟨l21, l22⟩ := gall_len (p + r * per) per ok2.out
  rw [HN.out] at l11 l12
  rw [HM.out] at l21 l22
  have hz : ∀ k, k < len → (zs.take len ++ gall p per).getD k 0 = zs.getD k 0 := fun k hk => by
    have : k < (zs.take len).length := by simp; omega
    simp [List.getD, List.getElem?_append_left this, hk]
  have d1 : decide ((1048576 : Int) < (len : Int)) = false := decide_eq_false (by omega)
  have d2 : decide (r < 0) = false := decide_eq_false (by omega)
  have d3 : decide ((len : Int) + (N : Int) < (len : Int)) = false := decide_eq_false (by omega)
  have hcl : ¬ cap1 = len := by omega
  have HZ := Lib.hid hz
  have HC1 := Lib.hid hcell1'
  have HC2 := Lib.hid hcell2
  have HA := Lib.hid hA
  clear hz hcell1' hcell2 hA
  go_wp2
  go_loopw [12] (fun i wr => ∃ (k nq : Nat), k ≤ len ∧ i = .int .i64 k ∧ wr = w5.drewN nq) (fun i _ => len - (intOf i).toNat)
  case atStart => exact ⟨0, 0, Nat.zero_le _, rfl, rfl⟩
  case round =>
    obtain ⟨k, nq, hk, rfl, rfl⟩ := hrel
    by_cases hlt : k < len
    · obtain ⟨b0, off0, rfl, hb0, hbc⟩ := HA.out.resolve_left (by omega)
      have c1 := HC1.out k (by omega)
      rw [HZ.out k hlt] at c1
      have c2 : w5.cell? ⟨b0, off0 + k, none⟩ = some (.int .u8 (zs.getD k 0)) := by rw [hB5.cell (p := ⟨b0, off0 + k, none⟩) hb0]; exact hbc k hlt
      generalize zs.getD k 0 = z at c1 c2
      clear hbc
      go_wp2
      go_region
      go_wp2
      go_roundw
      case rel => exact ⟨k + 1, nq + 1, by omega, by go_num, rfl⟩
      case measure => simp [intOf]; omega
    · obtain rfl : k = len := by omega
      have hok' := ok1.out
      have hok2 := ok2.out
      have eG1 : gall p per = gbytes p per := by unfold gall; rw [if_neg (by omega)]
      have eG2 : gall (p + r * per) per = gbytes (p + r * per) per := by unfold gall; rw [if_neg (by omega)]
      have hcT : ∀ i, i < (gall p per).length → (w5.drewN nq).cell? ⟨g1, k + i, none⟩ = some (.int .u8 ((gall p per).getD i 0)) := fun i hi => by
        have h1 := HC1.out (k + i) (by have := HN.out; omega)
        rw [getD_take_app _ _ _ _ (by omega)] at h1
        exact h1
      have hcU : ∀ i, i < (gall (p + r * per) per).length → (w5.drewN nq).cell? ⟨g2, 0 + i, none⟩ = some (.int .u8 ((gall (p + r * per) per).getD i 0)) := fun i hi => by
        have h1 := HC2.out i (by have := HM.out; omega)
        rw [Nat.zero_add]
        exact h1
      have HT := Lib.hid (textOk g1 k (cap1 - k) N p per (w5.drewN nq) ok1.out HN.out.symm hcT)
      rw [eG1] at hcT
      rw [eG2] at hcU
      have HP1 := Lib.hid (parse_gas g1 k (cap1 - k) N p per (w5.drewN nq) hp0 hp2 hper (by rw [← eG1]; exact HN.out.symm) (by omega) hcT)
      have HP2 := Lib.hid (parse_gas g2 0 cap2 M (p + r * per) per (w5.drewN nq) (by omega) hs2 hper (by rw [← eG2]; exact HM.out.symm) (by omega) hcU)
      obtain ⟨W0, W1⟩ := gW_bd p per hp0 hp2 hper
      have eF : gF (p + r * per) per = gF p per := gF_shift p per r
      have eW : gW (p + r * per) per = gW p per + r := gW_shift p per r hper
      obtain ⟨V0, V1⟩ := gW_bd (p + r * per) per (by omega) hs2 hper
      rw [eF, eW] at HP2
      rw [eW] at V0 V1
      clear hcT hcU eG1 eG2 hok' hok2 eF eW
      have hd9 : (per == 0) = false := by simp; omega
      generalize gF p per = F at *
      generalize gW p per = V at *
      have hfin : (V + r - r == V) = true := by simp
      go_wp2_with fail
      refine HT.out.mono ?_
      rintro e w' ⟨rfl, rfl⟩
      go_wp2_with fail
      refine HP1.out.mono ?_
      rintro e w' ⟨rfl, rfl⟩
      go_wp2_with fail
      refine HP2.out.mono ?_
      rintro e w' ⟨rfl, rfl⟩
      go_wp2
      go_ret
      exact ⟨rfl, ⟨hB5.os, hB5.tape, hB5.output, hB5.size, hB5.block⟩⟩
end Go.Proofs.Qxb6608916aDoor
