import Derived.Test.Qxb6608916aDoorShiftWalk
namespace Go.Proofs.Qxb6608916aDoor
open Go.RowKit Go.Shelf
set_option linter.unusedVariables false

theorem vbytes_ok (p q r : Int) (a : Option Addr) (len cap : Nat) (w : World) (h : len ≤ 1048576) :
    Calls Tryd.prog 11 #[.int .i64 p, .int .i64 q, .int .i64 r, .slice a len cap] w fun e w' => e = .returned (.bool true) ∧ w = w' := by
  go_enter Tryd.func11, Tryd.ntmps11
  go_wp2
  go_ret
  exact ⟨rfl, rfl⟩
theorem vbytes_no (p q r : Int) (a : Option Addr) (len cap : Nat) (w : World) (h : 1048576 < len) (h2 : len ≤ 9223372036854775807) :
    Calls Tryd.prog 11 #[.int .i64 p, .int .i64 q, .int .i64 r, .slice a len cap] w fun e w' => e = .returned (.bool false) ∧ w = w' := by
  go_enter Tryd.func11, Tryd.ntmps11
  go_wp2
  go_ret
  exact ⟨rfl, rfl⟩

theorem gall_scale (n per k : Int) (hper : 0 ≤ per) (hk : 0 < k) : gall (n * k) (per * k) = gall n per := by
  by_cases h0 : per = 0
  · subst h0; rw [Int.zero_mul]; rfl
  · have h1 : ¬ per * k = 0 := by
      have : 0 < per * k := Int.mul_pos (by omega) hk
      omega
    unfold gall; rw [if_neg h0, if_neg h1]; unfold gbytes
    rw [gW_scale n per k (by omega) hk, gF_scale n per k (by omega) hk]

set_option maxHeartbeats 4000000 in
set_option maxRecDepth 100000 in
theorem value_zp (p r : Int) (hp1 : -9223372036854775808 ≤ p) (hm0 : -9223372036854775808 ≤ p * r) (hm1 : p * r ≤ 9223372036854775807) (hs : 0 < p) (hg0 : 0 ≤ 9223372036854775807 / p) (hg1 : r ≤ 9223372036854775807 / p) (a : Option Addr) (len cap : Nat) (zs : List Int) (w : World) (hlen : len ≤ 1048576) (hr : 1 ≤ r) (hr2 : r ≤ 9223372036854775807) (hp2 : p ≤ 9223372036854775807)
    (hrow : Hid (IsRow .u8 w a len cap zs)) (hzs : len ≤ zs.length) (hA : len = 0 ∨ ∃ b0 off0, a = some ⟨b0, off0, none⟩ ∧ b0 < w.heap.size ∧ ∀ k, k < len → w.cell? ⟨b0, off0 + k, none⟩ = some (.int .u8 (zs.getD k 0)))
    (hT0 : Hid (Lib.TabIs Tryd.prog w tabName .u64 Lib.pow10Tab)) (ok1 : Hid (gasOk p 0)) (ok2 : Hid (gasOk (p * r) 0)) (hsame : Hid (gall (p * r) 0 = gall p 0)) :
    Calls Tryd.prog 4 #[.int .i64 p, .int .i64 0, .int .i64 r, .slice a len cap] w fun e w' => e = .returned (.bool true) ∧ Below w.heap.size w w' := by
  have hT1 := Lib.hid (Lib.tabBelow_of_tabIs hT0.out)
  obtain ⟨N, HN⟩ : ∃ N, Hid ((gall p 0).length = N) := ⟨_, rfl⟩
  obtain ⟨M, HM⟩ : ∃ M, Hid ((gall (p * r) 0).length = M) := ⟨_, rfl⟩
  go_enter Tryd.func4, Tryd.ntmps4
  go_wp2_with fail
  refine (vbytes_ok _ _ _ _ _ _ _ hlen).mono ?_
  rintro e w' ⟨rfl, rfl⟩
  go_wp2_with fail
  refine (clone_any a len cap zs w hrow.out hlen).mono ?_
  rintro e w1 ⟨v1, rfl, hown1, hb1⟩
  go_wp2_with fail
  refine (newGas _ _ _).mono ?_
  rintro e w2 ⟨rfl, hb2⟩
  have hown2 := own_below hown1 hb2
  have hB2 : Below w.heap.size w w2 := hb1.trans (hb2.mono hb1.size)
  clear hown1 hb2 hb1
  go_wp2_with fail
  refine (gapp p 0 w.heap.size len v1 (zs.take len) w2 N HN.out ok1.out hown2 hB2.size (by omega) (hT1.out.on hB2)).mono ?_
  rintro e w3 ⟨g1, cap1, rfl, hg1, hg1s, hnc1, hcm1, hcell1, hb3⟩
  have hB3 : Below w.heap.size w w3 := hB2.trans hb3
  clear hb3 hB2 hown2
  go_wp2_with fail
  refine (newGas _ _ _).mono ?_
  rintro e w4 ⟨rfl, hb4⟩
  have hB4 : Below w.heap.size w w4 := hB3.trans (hb4.mono hB3.size)
  go_wp2_with fail
  refine (gapp (p * r) 0 w4.heap.size 0 (.slice none 0 0) [] w4 M HM.out ok2.out (World.ownsRow_nil _ _ _ _) (Nat.le_refl _) (by omega) (Lib.tabBelow_of_tabIs (hT1.out w4 hB4))).mono ?_
  rintro e w5 ⟨g2, cap2, rfl, hg2, hg2s, hnc2, hcm2, hcell2, hb5⟩
  have hB5 : Below w.heap.size w w5 := hB4.trans (hb5.mono hB4.size)
  have hcell1' : ∀ i, i < len + N → w5.cell? ⟨g1, i, none⟩ = some (.int .u8 ((zs.take len ++ gall p 0).getD i 0)) := fun i hi => by
    rw [hb5.cell (p := ⟨g1, i, none⟩) (show g1 < w4.heap.size from Nat.lt_of_lt_of_le hg1s hb4.size), hb4.cell (p := ⟨g1, i, none⟩) hg1s]; exact hcell1 i hi
  clear hcell1 hb4 hb5 hB4 hB3
  obtain ⟨l11, l12⟩ := gall_len p 0 ok1.out
  obtain ⟨l21, l22⟩ := gall_len (p * r) 0 ok2.out
  rw [HN.out] at l11 l12
  rw [HM.out] at l21 l22
  have hz : ∀ k, k < len → (zs.take len ++ gall p 0).getD k 0 = zs.getD k 0 := fun k hk => by
    have : k < (zs.take len).length := by simp; omega
    simp [List.getD, List.getElem?_append_left this, hk]
  have d1 : decide ((1048576 : Int) < (len : Int)) = false := decide_eq_false (by omega)
  have hcl : ¬ cap1 = len := by omega
  have HZ := Lib.hid hz
  have HC1 := Lib.hid hcell1'
  have HC2 := Lib.hid hcell2
  have HA := Lib.hid hA
  clear hz hcell1' hcell2 hA
  obtain rfl : M = N := by rw [← HM.out, ← HN.out, hsame.out]
  have dne : (((len : Int) + (M : Int)) != ((len : Int) + (M : Int))) = false := by simp
  go_wp2
  go_loopw [12] (fun i wr => ∃ (k nq : Nat), k ≤ len ∧ i = .int .i64 k ∧ wr = w5.drewN nq) (fun i _ => len - (intOf i).toNat)
  case atStart => exact ⟨0, 0, Nat.zero_le _, rfl, rfl⟩
  case round =>
    obtain ⟨k, nq, hk, rfl, rfl⟩ := hrel
    by_cases hlt : k < len
    · obtain ⟨b0, off0, rfl, hb0, hbc⟩ := HA.out.resolve_left (by omega)
      have c1 := HC1.out k (by omega)
      rw [HZ.out k hlt] at c1
      have c2 : w5.cell? ⟨b0, off0 + k, none⟩ = some (.int .u8 (zs.getD k 0)) := by rw [hB5.cell (p := ⟨b0, off0 + k, none⟩) hb0]; exact hbc k hlt
      generalize zs.getD k 0 = z at c1 c2
      clear hbc
      go_wp2
      go_region
      go_wp2
      go_roundw
      case rel => exact ⟨k + 1, nq + 1, by omega, by go_num, rfl⟩
      case measure => simp [intOf]; omega
    · obtain rfl : k = len := by omega
      have hlast : ∀ j, j < M → w5.cell? ⟨g1, k + j, none⟩ = some (.int .u8 ((gall p 0).getD j 0)) := fun j hj => by
        have h1 := HC1.out (k + j) (by omega)
        rw [getD_take_app _ _ _ _ (by omega)] at h1
        exact h1
      have hout2 : ∀ j, j < M → w5.cell? ⟨g2, j, none⟩ = some (.int .u8 ((gall p 0).getD j 0)) := fun j hj => by
        have h1 := HC2.out j (by omega)
        rw [List.nil_append, hsame.out] at h1
        exact h1
      have HL := Lib.hid hlast
      have HO := Lib.hid hout2
      clear hlast hout2
      go_wp2
      go_loopw [13] (fun i wr => ∃ (j nq : Nat), j ≤ M ∧ i = .int .i64 j ∧ wr = w5.drewN nq) (fun i _ => M - (intOf i).toNat)
      case atStart => exact ⟨0, nq, Nat.zero_le _, rfl, rfl⟩
      case round =>
        obtain ⟨j, nr, hj, rfl, rfl⟩ := hrel
        by_cases hjt : j < M
        · have c1 := HL.out j hjt
          have c2 := HO.out j hjt
          generalize (gall p 0).getD j 0 = z at c1 c2
          go_wp2
          go_region
          go_wp2
          go_roundw
          case rel => exact ⟨j + 1, nr + 1, by omega, by go_num, rfl⟩
          case measure => simp [intOf]; omega
        · obtain rfl : j = M := by omega
          have hcT : ∀ i, i < (gall p 0).length → (w5.drewN nr).cell? ⟨g2, 0 + i, none⟩ = some (.int .u8 ((gall p 0).getD i 0)) := fun i hi => by
            have h1 := HO.out i (by have := HN.out; omega)
            rw [Nat.zero_add]
            exact h1
          have HT := Lib.hid (textOk g2 0 cap2 j p 0 (w5.drewN nr) ok1.out HN.out.symm hcT)
          clear hcT
          go_wp2_with (go_at_call 9; refine HT.out.mono ?_; rintro e w' ⟨rfl, rfl⟩)
          go_ret
          exact ⟨rfl, ⟨hB5.os, hB5.tape, hB5.output, hB5.size, hB5.block⟩⟩

set_option maxHeartbeats 4000000 in
set_option maxRecDepth 100000 in
theorem value_z0 (p r : Int) (hp1 : -9223372036854775808 ≤ p) (hm0 : -9223372036854775808 ≤ p * r) (hm1 : p * r ≤ 9223372036854775807) (hs : 0 ≤ p) (hs2 : p ≤ 0) (a : Option Addr) (len cap : Nat) (zs : List Int) (w : World) (hlen : len ≤ 1048576) (hr : 1 ≤ r) (hr2 : r ≤ 9223372036854775807) (hp2 : p ≤ 9223372036854775807)
    (hrow : Hid (IsRow .u8 w a len cap zs)) (hzs : len ≤ zs.length) (hA : len = 0 ∨ ∃ b0 off0, a = some ⟨b0, off0, none⟩ ∧ b0 < w.heap.size ∧ ∀ k, k < len → w.cell? ⟨b0, off0 + k, none⟩ = some (.int .u8 (zs.getD k 0)))
    (hT0 : Hid (Lib.TabIs Tryd.prog w tabName .u64 Lib.pow10Tab)) (ok1 : Hid (gasOk p 0)) (ok2 : Hid (gasOk (p * r) 0)) (hsame : Hid (gall (p * r) 0 = gall p 0)) :
    Calls Tryd.prog 4 #[.int .i64 p, .int .i64 0, .int .i64 r, .slice a len cap] w fun e w' => e = .returned (.bool true) ∧ Below w.heap.size w w' := by
  have hT1 := Lib.hid (Lib.tabBelow_of_tabIs hT0.out)
  obtain ⟨N, HN⟩ : ∃ N, Hid ((gall p 0).length = N) := ⟨_, rfl⟩
  obtain ⟨M, HM⟩ : ∃ M, Hid ((gall (p * r) 0).length = M) := ⟨_, rfl⟩
  go_enter Tryd.func4, Tryd.ntmps4
  go_wp2_with fail
  refine (vbytes_ok _ _ _ _ _ _ _ hlen).mono ?_
  rintro e w' ⟨rfl, rfl⟩
  go_wp2_with fail
  refine (clone_any a len cap zs w hrow.out hlen).mono ?_
  rintro e w1 ⟨v1, rfl, hown1, hb1⟩
  go_wp2_with fail
  refine (newGas _ _ _).mono ?_
  rintro e w2 ⟨rfl, hb2⟩
  have hown2 := own_below hown1 hb2
  have hB2 : Below w.heap.size w w2 := hb1.trans (hb2.mono hb1.size)
  clear hown1 hb2 hb1
  go_wp2_with fail
  refine (gapp p 0 w.heap.size len v1 (zs.take len) w2 N HN.out ok1.out hown2 hB2.size (by omega) (hT1.out.on hB2)).mono ?_
  rintro e w3 ⟨g1, cap1, rfl, hg1, hg1s, hnc1, hcm1, hcell1, hb3⟩
  have hB3 : Below w.heap.size w w3 := hB2.trans hb3
  clear hb3 hB2 hown2
  go_wp2_with fail
  refine (newGas _ _ _).mono ?_
  rintro e w4 ⟨rfl, hb4⟩
  have hB4 : Below w.heap.size w w4 := hB3.trans (hb4.mono hB3.size)
  go_wp2_with fail
  refine (gapp (p * r) 0 w4.heap.size 0 (.slice none 0 0) [] w4 M HM.out ok2.out (World.ownsRow_nil _ _ _ _) (Nat.le_refl _) (by omega) (Lib.tabBelow_of_tabIs (hT1.out w4 hB4))).mono ?_
  rintro e w5 ⟨g2, cap2, rfl, hg2, hg2s, hnc2, hcm2, hcell2, hb5⟩
  have hB5 : Below w.heap.size w w5 := hB4.trans (hb5.mono hB4.size)
  have hcell1' : ∀ i, i < len + N → w5.cell? ⟨g1, i, none⟩ = some (.int .u8 ((zs.take len ++ gall p 0).getD i 0)) := fun i hi => by
    rw [hb5.cell (p := ⟨g1, i, none⟩) (show g1 < w4.heap.size from Nat.lt_of_lt_of_le hg1s hb4.size), hb4.cell (p := ⟨g1, i, none⟩) hg1s]; exact hcell1 i hi
  clear hcell1 hb4 hb5 hB4 hB3
  obtain ⟨l11, l12⟩ := gall_len p 0 ok1.out
  obtain ⟨l21, l22⟩ := gall_len (p * r) 0 ok2.out
  rw [HN.out] at l11 l12
  rw [HM.out] at l21 l22
  have hz : ∀ k, k < len → (zs.take len ++ gall p 0).getD k 0 = zs.getD k 0 := fun k hk => by
    have : k < (zs.take len).length := by simp; omega
    simp [List.getD, List.getElem?_append_left this, hk]
  have d1 : decide ((1048576 : Int) < (len : Int)) = false := decide_eq_false (by omega)
  have hcl : ¬ cap1 = len := by omega
  have HZ := Lib.hid hz
  have HC1 := Lib.hid hcell1'
  have HC2 := Lib.hid hcell2
  have HA := Lib.hid hA
  clear hz hcell1' hcell2 hA
  obtain rfl : M = N := by rw [← HM.out, ← HN.out, hsame.out]
  have dne : (((len : Int) + (M : Int)) != ((len : Int) + (M : Int))) = false := by simp
  go_wp2
  go_loopw [12] (fun i wr => ∃ (k nq : Nat), k ≤ len ∧ i = .int .i64 k ∧ wr = w5.drewN nq) (fun i _ => len - (intOf i).toNat)
  case atStart => exact ⟨0, 0, Nat.zero_le _, rfl, rfl⟩
  case round =>
    obtain ⟨k, nq, hk, rfl, rfl⟩ := hrel
    by_cases hlt : k < len
    · obtain ⟨b0, off0, rfl, hb0, hbc⟩ := HA.out.resolve_left (by omega)
      have c1 := HC1.out k (by omega)
      rw [HZ.out k hlt] at c1
      have c2 : w5.cell? ⟨b0, off0 + k, none⟩ = some (.int .u8 (zs.getD k 0)) := by rw [hB5.cell (p := ⟨b0, off0 + k, none⟩) hb0]; exact hbc k hlt
      generalize zs.getD k 0 = z at c1 c2
      clear hbc
      go_wp2
      go_region
      go_wp2
      go_roundw
      case rel => exact ⟨k + 1, nq + 1, by omega, by go_num, rfl⟩
      case measure => simp [intOf]; omega
    · obtain rfl : k = len := by omega
      have hlast : ∀ j, j < M → w5.cell? ⟨g1, k + j, none⟩ = some (.int .u8 ((gall p 0).getD j 0)) := fun j hj => by
        have h1 := HC1.out (k + j) (by omega)
        rw [getD_take_app _ _ _ _ (by omega)] at h1
        exact h1
      have hout2 : ∀ j, j < M → w5.cell? ⟨g2, j, none⟩ = some (.int .u8 ((gall p 0).getD j 0)) := fun j hj => by
        have h1 := HC2.out j (by omega)
        rw [List.nil_append, hsame.out] at h1
        exact h1
      have HL := Lib.hid hlast
      have HO := Lib.hid hout2
      clear hlast hout2
      go_wp2
      go_loopw [13] (fun i wr => ∃ (j nq : Nat), j ≤ M ∧ i = .int .i64 j ∧ wr = w5.drewN nq) (fun i _ => M - (intOf i).toNat)
      case atStart => exact ⟨0, nq, Nat.zero_le _, rfl, rfl⟩
      case round =>
        obtain ⟨j, nr, hj, rfl, rfl⟩ := hrel
        by_cases hjt : j < M
        · have c1 := HL.out j hjt
          have c2 := HO.out j hjt
          generalize (gall p 0).getD j 0 = z at c1 c2
          go_wp2
          go_region
          go_wp2
          go_roundw
          case rel => exact ⟨j + 1, nr + 1, by omega, by go_num, rfl⟩
          case measure => simp [intOf]; omega
        · obtain rfl : j = M := by omega
          have hcT : ∀ i, i < (gall p 0).length → (w5.drewN nr).cell? ⟨g2, 0 + i, none⟩ = some (.int .u8 ((gall p 0).getD i 0)) := fun i hi => by
            have h1 := HO.out i (by have := HN.out; omega)
            rw [Nat.zero_add]
            exact h1
          have HT := Lib.hid (textOk g2 0 cap2 j p 0 (w5.drewN nr) ok1.out HN.out.symm hcT)
          clear hcT
          go_wp2_with (go_at_call 9; refine HT.out.mono ?_; rintro e w' ⟨rfl, rfl⟩)
          go_ret
          exact ⟨rfl, ⟨hB5.os, hB5.tape, hB5.output, hB5.size, hB5.block⟩⟩

set_option maxHeartbeats 4000000 in
set_option maxRecDepth 100000 in
theorem value_zn (p r : Int) (hp1 : -9223372036854775808 ≤ p) (hm0 : -9223372036854775808 ≤ p * r) (hm1 : p * r ≤ 9223372036854775807) (hs : p < 0) (hg0 : 0 ≤ 9223372036854775807 / r) (hg3 : 9223372036854775807 / r ≤ 9223372036854775807) (hg2 : -(9223372036854775807 / r) ≤ p) (a : Option Addr) (len cap : Nat) (zs : List Int) (w : World) (hlen : len ≤ 1048576) (hr : 1 ≤ r) (hr2 : r ≤ 9223372036854775807) (hp2 : p ≤ 9223372036854775807)
    (hrow : Hid (IsRow .u8 w a len cap zs)) (hzs : len ≤ zs.length) (hA : len = 0 ∨ ∃ b0 off0, a = some ⟨b0, off0, none⟩ ∧ b0 < w.heap.size ∧ ∀ k, k < len → w.cell? ⟨b0, off0 + k, none⟩ = some (.int .u8 (zs.getD k 0)))
    (hT0 : Hid (Lib.TabIs Tryd.prog w tabName .u64 Lib.pow10Tab)) (ok1 : Hid (gasOk p 0)) (ok2 : Hid (gasOk (p * r) 0)) (hsame : Hid (gall (p * r) 0 = gall p 0)) :
    Calls Tryd.prog 4 #[.int .i64 p, .int .i64 0, .int .i64 r, .slice a len cap] w fun e w' => e = .returned (.bool true) ∧ Below w.heap.size w w' := by
  have hT1 := Lib.hid (Lib.tabBelow_of_tabIs hT0.out)
  obtain ⟨N, HN⟩ : ∃ N, Hid ((gall p 0).length = N) := ⟨_, rfl⟩
  obtain ⟨M, HM⟩ : ∃ M, Hid ((gall (p * r) 0).length = M) := ⟨_, rfl⟩
  go_enter Tryd.func4, Tryd.ntmps4
  go_wp2_with fail
  refine (vbytes_ok _ _ _ _ _ _ _ hlen).mono ?_
  rintro e w' ⟨rfl, rfl⟩
  go_wp2_with fail
  refine (clone_any a len cap zs w hrow.out hlen).mono ?_
  rintro e w1 ⟨v1, rfl, hown1, hb1⟩
  go_wp2_with fail
  refine (newGas _ _ _).mono ?_
  rintro e w2 ⟨rfl, hb2⟩
  have hown2 := own_below hown1 hb2
  have hB2 : Below w.heap.size w w2 := hb1.trans (hb2.mono hb1.size)
  clear hown1 hb2 hb1
  go_wp2_with fail
  refine (gapp p 0 w.heap.size len v1 (zs.take len) w2 N HN.out ok1.out hown2 hB2.size (by omega) (hT1.out.on hB2)).mono ?_
  rintro e w3 ⟨g1, cap1, rfl, hg1, hg1s, hnc1, hcm1, hcell1, hb3⟩
  have hB3 : Below w.heap.size w w3 := hB2.trans hb3
  clear hb3 hB2 hown2
  go_wp2_with fail
  refine (newGas _ _ _).mono ?_
  rintro e w4 ⟨rfl, hb4⟩
  have hB4 : Below w.heap.size w w4 := hB3.trans (hb4.mono hB3.size)
  go_wp2_with fail
  refine (gapp (p * r) 0 w4.heap.size 0 (.slice none 0 0) [] w4 M HM.out ok2.out (World.ownsRow_nil _ _ _ _) (Nat.le_refl _) (by omega) (Lib.tabBelow_of_tabIs (hT1.out w4 hB4))).mono ?_
  rintro e w5 ⟨g2, cap2, rfl, hg2, hg2s, hnc2, hcm2, hcell2, hb5⟩
  have hB5 : Below w.heap.size w w5 := hB4.trans (hb5.mono hB4.size)
  have hcell1' : ∀ i, i < len + N → w5.cell? ⟨g1, i, none⟩ = some (.int .u8 ((zs.take len ++ gall p 0).getD i 0)) := fun i hi => by
    rw [hb5.cell (p := ⟨g1, i, none⟩) (show g1 < w4.heap.size from Nat.lt_of_lt_of_le hg1s hb4.size), hb4.cell (p := ⟨g1, i, none⟩) hg1s]; exact hcell1 i hi
  clear hcell1 hb4 hb5 hB4 hB3
  obtain ⟨l11, l12⟩ := gall_len p 0 ok1.out
  obtain ⟨l21, l22⟩ := gall_len (p * r) 0 ok2.out
  rw [HN.out] at l11 l12
  rw [HM.out] at l21 l22
  have hz : ∀ k, k < len → (zs.take len ++ gall p 0).getD k 0 = zs.getD k 0 := fun k hk => by
    have : k < (zs.take len).length := by simp; omega
    simp [List.getD, List.getElem?_append_left this, hk]
  have d1 : decide ((1048576 : Int) < (len : Int)) = false := decide_eq_false (by omega)
  have hcl : ¬ cap1 = len := by omega
  have HZ := Lib.hid hz
  have HC1 := Lib.hid hcell1'
  have HC2 := Lib.hid hcell2
  have HA := Lib.hid hA
  clear hz hcell1' hcell2 hA
  obtain rfl : M = N := by rw [← HM.out, ← HN.out, hsame.out]
  have dne : (((len : Int) + (M : Int)) != ((len : Int) + (M : Int))) = false := by simp
  go_wp2
  go_loopw [12] (fun i wr => ∃ (k nq : Nat), k ≤ len ∧ i = .int .i64 k ∧ wr = w5.drewN nq) (fun i _ => len - (intOf i).toNat)
  case atStart => exact ⟨0, 0, Nat.zero_le _, rfl, rfl⟩
  case round =>
    obtain ⟨k, nq, hk, rfl, rfl⟩ := hrel
    by_cases hlt : k < len
    · obtain ⟨b0, off0, rfl, hb0, hbc⟩ := HA.out.resolve_left (by omega)
      have c1 := HC1.out k (by omega)
      rw [HZ.out k hlt] at c1
      have c2 : w5.cell? ⟨b0, off0 + k, none⟩ = some (.int .u8 (zs.getD k 0)) := by rw [hB5.cell (p := ⟨b0, off0 + k, none⟩) hb0]; exact hbc k hlt
      generalize zs.getD k 0 = z at c1 c2
      clear hbc
      go_wp2
      go_region
      go_wp2
      go_roundw
      case rel => exact ⟨k + 1, nq + 1, by omega, by go_num, rfl⟩
      case measure => simp [intOf]; omega
    · obtain rfl : k = len := by omega
      have hlast : ∀ j, j < M → w5.cell? ⟨g1, k + j, none⟩ = some (.int .u8 ((gall p 0).getD j 0)) := fun j hj => by
        have h1 := HC1.out (k + j) (by omega)
        rw [getD_take_app _ _ _ _ (by omega)] at h1
        exact h1
      have hout2 : ∀ j, j < M → w5.cell? ⟨g2, j, none⟩ = some (.int .u8 ((gall p 0).getD j 0)) := fun j hj => by
        have h1 := HC2.out j (by omega)
        rw [List.nil_append, hsame.out] at h1
        exact h1
      have HL := Lib.hid hlast
      have HO := Lib.hid hout2
      clear hlast hout2
      go_wp2
      go_loopw [13] (fun i wr => ∃ (j nq : Nat), j ≤ M ∧ i = .int .i64 j ∧ wr = w5.drewN nq) (fun i _ => M - (intOf i).toNat)
      case atStart => exact ⟨0, nq, Nat.zero_le _, rfl, rfl⟩
      case round =>
        obtain ⟨j, nr, hj, rfl, rfl⟩ := hrel
        by_cases hjt : j < M
        · have c1 := HL.out j hjt
          have c2 := HO.out j hjt
          generalize (gall p 0).getD j 0 = z at c1 c2
          go_wp2
          go_region
          go_wp2
          go_roundw
          case rel => exact ⟨j + 1, nr + 1, by omega, by go_num, rfl⟩
          case measure => simp [intOf]; omega
        · obtain rfl : j = M := by omega
          have hcT : ∀ i, i < (gall p 0).length → (w5.drewN nr).cell? ⟨g2, 0 + i, none⟩ = some (.int .u8 ((gall p 0).getD i 0)) := fun i hi => by
            have h1 := HO.out i (by have := HN.out; omega)
            rw [Nat.zero_add]
            exact h1
          have HT := Lib.hid (textOk g2 0 cap2 j p 0 (w5.drewN nr) ok1.out HN.out.symm hcT)
          clear hcT
          go_wp2_with (go_at_call 9; refine HT.out.mono ?_; rintro e w' ⟨rfl, rfl⟩)
          go_ret
          exact ⟨rfl, ⟨hB5.os, hB5.tape, hB5.output, hB5.size, hB5.block⟩⟩

set_option maxHeartbeats 4000000 in
set_option maxRecDepth 100000 in
theorem value_pp (p r per : Int) (hper : 0 < per) (hper2 : per ≤ 9223372036854775) (hq0 : 0 ≤ 9223372036854775 / per) (hq : r ≤ 9223372036854775 / per) (hm0 : 0 ≤ p * r) (hm1 : p * r ≤ 9223372036854775807) (hn0 : 0 ≤ per * r) (hn1 : per * r ≤ 9223372036854775) (hs : 0 < p) (hg0 : 0 ≤ 9223372036854775807 / p) (hg1 : r ≤ 9223372036854775807 / p) (a : Option Addr) (len cap : Nat) (zs : List Int) (w : World) (hlen : len ≤ 1048576) (hr : 1 ≤ r) (hr2 : r ≤ 9223372036854775807) (hp2 : p ≤ 9223372036854775807)
    (hrow : Hid (IsRow .u8 w a len cap zs)) (hzs : len ≤ zs.length) (hA : len = 0 ∨ ∃ b0 off0, a = some ⟨b0, off0, none⟩ ∧ b0 < w.heap.size ∧ ∀ k, k < len → w.cell? ⟨b0, off0 + k, none⟩ = some (.int .u8 (zs.getD k 0)))
    (hT0 : Hid (Lib.TabIs Tryd.prog w tabName .u64 Lib.pow10Tab)) (ok1 : Hid (gasOk p per)) (ok2 : Hid (gasOk (p * r) (per * r))) (hsame : Hid (gall (p * r) (per * r) = gall p per)) :
    Calls Tryd.prog 4 #[.int .i64 p, .int .i64 per, .int .i64 r, .slice a len cap] w fun e w' => e = .returned (.bool true) ∧ Below w.heap.size w w' := by
  have hT1 := Lib.hid (Lib.tabBelow_of_tabIs hT0.out)
  obtain ⟨N, HN⟩ : ∃ N, Hid ((gall p per).length = N) := ⟨_, rfl⟩
  obtain ⟨M, HM⟩ : ∃ M, Hid ((gall (p * r) (per * r)).length = M) := ⟨_, rfl⟩
  go_enter Tryd.func4, Tryd.ntmps4
  go_wp2_with fail
  refine (vbytes_ok _ _ _ _ _ _ _ hlen).mono ?_
  rintro e w' ⟨rfl, rfl⟩
  go_wp2_with fail
  refine (clone_any a len cap zs w hrow.out hlen).mono ?_
  rintro e w1 ⟨v1, rfl, hown1, hb1⟩
  go_wp2_with fail
  refine (newGas _ _ _).mono ?_
  rintro e w2 ⟨rfl, hb2⟩
  have hown2 := own_below hown1 hb2
  have hB2 : Below w.heap.size w w2 := hb1.trans (hb2.mono hb1.size)
  clear hown1 hb2 hb1
  go_wp2_with fail
  refine (gapp p per w.heap.size len v1 (zs.take len) w2 N HN.out ok1.out hown2 hB2.size (by omega) (hT1.out.on hB2)).mono ?_
  rintro e w3 ⟨g1, cap1, rfl, hg1, hg1s, hnc1, hcm1, hcell1, hb3⟩
  have hB3 : Below w.heap.size w w3 := hB2.trans hb3
  clear hb3 hB2 hown2
  go_wp2_with fail
  refine (newGas _ _ _).mono ?_
  rintro e w4 ⟨rfl, hb4⟩
  have hB4 : Below w.heap.size w w4 := hB3.trans (hb4.mono hB3.size)
  go_wp2_with fail
  refine (gapp (p * r) (per * r) w4.heap.size 0 (.slice none 0 0) [] w4 M HM.out ok2.out (World.ownsRow_nil _ _ _ _) (Nat.le_refl _) (by omega) (Lib.tabBelow_of_tabIs (hT1.out w4 hB4))).mono ?_
  rintro e w5 ⟨g2, cap2, rfl, hg2, hg2s, hnc2, hcm2, hcell2, hb5⟩
  have hB5 : Below w.heap.size w w5 := hB4.trans (hb5.mono hB4.size)
  have hcell1' : ∀ i, i < len + N → w5.cell? ⟨g1, i, none⟩ = some (.int .u8 ((zs.take len ++ gall p per).getD i 0)) := fun i hi => by
    rw [hb5.cell (p := ⟨g1, i, none⟩) (show g1 < w4.heap.size from Nat.lt_of_lt_of_le hg1s hb4.size), hb4.cell (p := ⟨g1, i, none⟩) hg1s]; exact hcell1 i hi
  clear hcell1 hb4 hb5 hB4 hB3
  obtain ⟨l11, l12⟩ := gall_len p per ok1.out
  obtain ⟨l21, l22⟩ := gall_len (p * r) (per * r) ok2.out
  rw [HN.out] at l11 l12
  rw [HM.out] at l21 l22
  have hz : ∀ k, k < len → (zs.take len ++ gall p per).getD k 0 = zs.getD k 0 := fun k hk => by
    have : k < (zs.take len).length := by simp; omega
    simp [List.getD, List.getElem?_append_left this, hk]
  have d1 : decide ((1048576 : Int) < (len : Int)) = false := decide_eq_false (by omega)
  have hcl : ¬ cap1 = len := by omega
  have HZ := Lib.hid hz
  have HC1 := Lib.hid hcell1'
  have HC2 := Lib.hid hcell2
  have HA := Lib.hid hA
  clear hz hcell1' hcell2 hA
  obtain rfl : M = N := by rw [← HM.out, ← HN.out, hsame.out]
  have dne : (((len : Int) + (M : Int)) != ((len : Int) + (M : Int))) = false := by simp
  go_wp2
  go_loopw [12] (fun i wr => ∃ (k nq : Nat), k ≤ len ∧ i = .int .i64 k ∧ wr = w5.drewN nq) (fun i _ => len - (intOf i).toNat)
  case atStart => exact ⟨0, 0, Nat.zero_le _, rfl, rfl⟩
  case round =>
    obtain ⟨k, nq, hk, rfl, rfl⟩ := hrel
    by_cases hlt : k < len
    · obtain ⟨b0, off0, rfl, hb0, hbc⟩ := HA.out.resolve_left (by omega)
      have c1 := HC1.out k (by omega)
      rw [HZ.out k hlt] at c1
      have c2 : w5.cell? ⟨b0, off0 + k, none⟩ = some (.int .u8 (zs.getD k 0)) := by rw [hB5.cell (p := ⟨b0, off0 + k, none⟩) hb0]; exact hbc k hlt
      generalize zs.getD k 0 = z at c1 c2
      clear hbc
      go_wp2
      go_region
      go_wp2
      go_roundw
      case rel => exact ⟨k + 1, nq + 1, by omega, by go_num, rfl⟩
      case measure => simp [intOf]; omega
    · obtain rfl : k = len := by omega
      have hlast : ∀ j, j < M → w5.cell? ⟨g1, k + j, none⟩ = some (.int .u8 ((gall p per).getD j 0)) := fun j hj => by
        have h1 := HC1.out (k + j) (by omega)
        rw [getD_take_app _ _ _ _ (by omega)] at h1
        exact h1
      have hout2 : ∀ j, j < M → w5.cell? ⟨g2, j, none⟩ = some (.int .u8 ((gall p per).getD j 0)) := fun j hj => by
        have h1 := HC2.out j (by omega)
        rw [List.nil_append, hsame.out] at h1
        exact h1
      have HL := Lib.hid hlast
      have HO := Lib.hid hout2
      clear hlast hout2
      go_wp2
      go_loopw [13] (fun i wr => ∃ (j nq : Nat), j ≤ M ∧ i = .int .i64 j ∧ wr = w5.drewN nq) (fun i _ => M - (intOf i).toNat)
      case atStart => exact ⟨0, nq, Nat.zero_le _, rfl, rfl⟩
      case round =>
        obtain ⟨j, nr, hj, rfl, rfl⟩ := hrel
        by_cases hjt : j < M
        · have c1 := HL.out j hjt
          have c2 := HO.out j hjt
          generalize (gall p per).getD j 0 = z at c1 c2
          go_wp2
          go_region
          go_wp2
          go_roundw
          case rel => exact ⟨j + 1, nr + 1, by omega, by go_num, rfl⟩
          case measure => simp [intOf]; omega
        · obtain rfl : j = M := by omega
          have hcT : ∀ i, i < (gall p per).length → (w5.drewN nr).cell? ⟨g2, 0 + i, none⟩ = some (.int .u8 ((gall p per).getD i 0)) := fun i hi => by
            have h1 := HO.out i (by have := HN.out; omega)
            rw [Nat.zero_add]
            exact h1
          have HT := Lib.hid (textOk g2 0 cap2 j p per (w5.drewN nr) ok1.out HN.out.symm hcT)
          clear hcT
          go_wp2_with (go_at_call 9; refine HT.out.mono ?_; rintro e w' ⟨rfl, rfl⟩)
          go_ret
          exact ⟨rfl, ⟨hB5.os, hB5.tape, hB5.output, hB5.size, hB5.block⟩⟩

set_option maxHeartbeats 4000000 in
set_option maxRecDepth 100000 in
theorem value_p0 (p r per : Int) (hper : 0 < per) (hper2 : per ≤ 9223372036854775) (hq0 : 0 ≤ 9223372036854775 / per) (hq : r ≤ 9223372036854775 / per) (hm0 : 0 ≤ p * r) (hm1 : p * r ≤ 9223372036854775807) (hn0 : 0 ≤ per * r) (hn1 : per * r ≤ 9223372036854775) (hs : 0 ≤ p) (hs2 : p ≤ 0) (a : Option Addr) (len cap : Nat) (zs : List Int) (w : World) (hlen : len ≤ 1048576) (hr : 1 ≤ r) (hr2 : r ≤ 9223372036854775807) (hp2 : p ≤ 9223372036854775807)
    (hrow : Hid (IsRow .u8 w a len cap zs)) (hzs : len ≤ zs.length) (hA : len = 0 ∨ ∃ b0 off0, a = some ⟨b0, off0, none⟩ ∧ b0 < w.heap.size ∧ ∀ k, k < len → w.cell? ⟨b0, off0 + k, none⟩ = some (.int .u8 (zs.getD k 0)))
    (hT0 : Hid (Lib.TabIs Tryd.prog w tabName .u64 Lib.pow10Tab)) (ok1 : Hid (gasOk p per)) (ok2 : Hid (gasOk (p * r) (per * r))) (hsame : Hid (gall (p * r) (per * r) = gall p per)) :
    Calls Tryd.prog 4 #[.int .i64 p, .int .i64 per, .int .i64 r, .slice a len cap] w fun e w' => e = .returned (.bool true) ∧ Below w.heap.size w w' := by
  have hT1 := Lib.hid (Lib.tabBelow_of_tabIs hT0.out)
  obtain ⟨N, HN⟩ : ∃ N, Hid ((gall p per).length = N) := ⟨_, rfl⟩
  obtain ⟨M, HM⟩ : ∃ M, Hid ((gall (p * r) (per * r)).length = M) := ⟨_, rfl⟩
  go_enter Tryd.func4, Tryd.ntmps4
  go_wp2_with fail
  refine (vbytes_ok _ _ _ _ _ _ _ hlen).mono ?_
  rintro e w' ⟨rfl, rfl⟩
  go_wp2_with fail
  refine (clone_any a len cap zs w hrow.out hlen).mono ?_
  rintro e w1 ⟨v1, rfl, hown1, hb1⟩
  go_wp2_with fail
  refine (newGas _ _ _).mono ?_
  rintro e w2 ⟨rfl, hb2⟩
  have hown2 := own_below hown1 hb2
  have hB2 : Below w.heap.size w w2 := hb1.trans (hb2.mono hb1.size)
  clear hown1 hb2 hb1
  go_wp2_with fail
  refine (gapp p per w.heap.size len v1 (zs.take len) w2 N HN.out ok1.out hown2 hB2.size (by omega) (hT1.out.on hB2)).mono ?_
  rintro e w3 ⟨g1, cap1, rfl, hg1, hg1s, hnc1, hcm1, hcell1, hb3⟩
  have hB3 : Below w.heap.size w w3 := hB2.trans hb3
  clear hb3 hB2 hown2
  go_wp2_with fail
  refine (newGas _ _ _).mono ?_
  rintro e w4 ⟨rfl, hb4⟩
  have hB4 : Below w.heap.size w w4 := hB3.trans (hb4.mono hB3.size)
  go_wp2_with fail
  refine (gapp (p * r) (per * r) w4.heap.size 0 (.slice none 0 0) [] w4 M HM.out ok2.out (World.ownsRow_nil _ _ _ _) (Nat.le_refl _) (by omega) (Lib.tabBelow_of_tabIs (hT1.out w4 hB4))).mono ?_
  rintro e w5 ⟨g2, cap2, rfl, hg2, hg2s, hnc2, hcm2, hcell2, hb5⟩
  have hB5 : Below w.heap.size w w5 := hB4.trans (hb5.mono hB4.size)
  have hcell1' : ∀ i, i < len + N → w5.cell? ⟨g1, i, none⟩ = some (.int .u8 ((zs.take len ++ gall p per).getD i 0)) := fun i hi => by
    rw [hb5.cell (p := ⟨g1, i, none⟩) (show g1 < w4.heap.size from Nat.lt_of_lt_of_le hg1s hb4.size), hb4.cell (p := ⟨g1, i, none⟩) hg1s]; exact hcell1 i hi
  clear hcell1 hb4 hb5 hB4 hB3
  obtain ⟨l11, l12⟩ := gall_len p per ok1.out
  obtain ⟨l21, l22⟩ := gall_len (p * r) (per * r) ok2.out
  rw [HN.out] at l11 l12
  rw [HM.out] at l21 l22
  have hz : ∀ k, k < len → (zs.take len ++ gall p per).getD k 0 = zs.getD k 0 := fun k hk => by
    have : k < (zs.take len).length := by simp; omega
    simp [List.getD, List.getElem?_append_left this, hk]
  have d1 : decide ((1048576 : Int) < (len : Int)) = false := decide_eq_false (by omega)
  have hcl : ¬ cap1 = len := by omega
  have HZ := Lib.hid hz
  have HC1 := Lib.hid hcell1'
  have HC2 := Lib.hid hcell2
  have HA := Lib.hid hA
  clear hz hcell1' hcell2 hA
  obtain rfl : M = N := by rw [← HM.out, ← HN.out, hsame.out]
  have dne : (((len : Int) + (M : Int)) != ((len : Int) + (M : Int))) = false := by simp
  go_wp2
  go_loopw [12] (fun i wr => ∃ (k nq : Nat), k ≤ len ∧ i = .int .i64 k ∧ wr = w5.drewN nq) (fun i _ => len - (intOf i).toNat)
  case atStart => exact ⟨0, 0, Nat.zero_le _, rfl, rfl⟩
  case round =>
    obtain ⟨k, nq, hk, rfl, rfl⟩ := hrel
    by_cases hlt : k < len
    · obtain ⟨b0, off0, rfl, hb0, hbc⟩ := HA.out.resolve_left (by omega)
      have c1 := HC1.out k (by omega)
      rw [HZ.out k hlt] at c1
      have c2 : w5.cell? ⟨b0, off0 + k, none⟩ = some (.int .u8 (zs.getD k 0)) := by rw [hB5.cell (p := ⟨b0, off0 + k, none⟩) hb0]; exact hbc k hlt
      generalize zs.getD k 0 = z at c1 c2
      clear hbc
      go_wp2
      go_region
      go_wp2
      go_roundw
      case rel => exact ⟨k + 1, nq + 1, by omega, by go_num, rfl⟩
      case measure => simp [intOf]; omega
    · obtain rfl : k = len := by omega
      have hlast : ∀ j, j < M → w5.cell? ⟨g1, k + j, none⟩ = some (.int .u8 ((gall p per).getD j 0)) := fun j hj => by
        have h1 := HC1.out (k + j) (by omega)
        rw [getD_take_app _ _ _ _ (by omega)] at h1
        exact h1
      have hout2 : ∀ j, j < M → w5.cell? ⟨g2, j, none⟩ = some (.int .u8 ((gall p per).getD j 0)) := fun j hj => by
        have h1 := HC2.out j (by omega)
        rw [List.nil_append, hsame.out] at h1
        exact h1
      have HL := Lib.hid hlast
      have HO := Lib.hid hout2
      clear hlast hout2
      go_wp2
      go_loopw [13] (fun i wr => ∃ (j nq : Nat), j ≤ M ∧ i = .int .i64 j ∧ wr = w5.drewN nq) (fun i _ => M - (intOf i).toNat)
      case atStart => exact ⟨0, nq, Nat.zero_le _, rfl, rfl⟩
      case round =>
        obtain ⟨j, nr, hj, rfl, rfl⟩ := hrel
        by_cases hjt : j < M
        · have c1 := HL.out j hjt
          have c2 := HO.out j hjt
          generalize (gall p per).getD j 0 = z at c1 c2
          go_wp2
          go_region
          go_wp2
          go_roundw
          case rel => exact ⟨j + 1, nr + 1, by omega, by go_num, rfl⟩
          case measure => simp [intOf]; omega
        · obtain rfl : j = M := by omega
          have hcT : ∀ i, i < (gall p per).length → (w5.drewN nr).cell? ⟨g2, 0 + i, none⟩ = some (.int .u8 ((gall p per).getD i 0)) := fun i hi => by
            have h1 := HO.out i (by have := HN.out; omega)
            rw [Nat.zero_add]
            exact h1
          have HT := Lib.hid (textOk g2 0 cap2 j p per (w5.drewN nr) ok1.out HN.out.symm hcT)
          clear hcT
          go_wp2_with (go_at_call 9; refine HT.out.mono ?_; rintro e w' ⟨rfl, rfl⟩)
          go_ret
          exact ⟨rfl, ⟨hB5.os, hB5.tape, hB5.output, hB5.size, hB5.block⟩⟩

end Go.Proofs.Qxb6608916aDoor
