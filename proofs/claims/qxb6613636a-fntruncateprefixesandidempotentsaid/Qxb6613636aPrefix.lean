import Derived.Test.Qxb6613636aTrunc
namespace Go.Proofs.Qxb6613636a
open Go.RowKit
set_option linter.unusedVariables false

theorem pbytes_ok (a : Option Addr) (len cap : Nat) (w : World) (h : len ≤ 1048576) :
    Calls Try.prog 8 #[.slice a len cap] w fun e w' => e = .returned (.bool true) ∧ w = w' := by
  go_enter Try.func8, Try.ntmps8
  go_wp2
  go_ret
  exact ⟨rfl, rfl⟩
theorem pbytes_no (a : Option Addr) (len cap : Nat) (w : World) (h : 1048576 < len) (h2 : len ≤ 9223372036854775807) :
    Calls Try.prog 8 #[.slice a len cap] w fun e w' => e = .returned (.bool false) ∧ w = w' := by
  go_enter Try.func8, Try.ntmps8
  go_wp2
  go_ret
  exact ⟨rfl, rfl⟩

set_option maxHeartbeats 4000000 in
set_option maxRecDepth 100000 in
theorem pre_some (x : Addr) (len cap : Nat) (l : List UInt8) (w : World) (hl : l.length = len) (hlen : len ≤ 65536)
    (hc : ∀ j (hj : j < l.length), w.cell? (x.add j) = some (.int .u8 (l[j].toNat : Int))) :
    Calls Try.prog 4 #[.slice (some x) len cap] w fun e w' => e = .returned (.bool true) ∧ Below w.heap.size w w' := by
  obtain ⟨i0, hi, hz0, hz1, hz2⟩ := info_parts infoByte
  have hnil := fun w => run_neq_slice_nil_any (P := Try.prog) w 22 5 (some x) len cap 0 0 Try.underlying22
  have HC := Lib.hid hc
  have HL := Lib.hid hl
  clear hc hl
  have d1 : decide ((65536 : Int) < (len : Int)) = false := decide_eq_false (by omega)
  go_enter Try.func4, Try.ntmps4
  go_wp2_with fail
  refine (pbytes_ok _ _ _ _ (by omega)).mono ?_
  rintro e w' ⟨rfl, rfl⟩
  go_wp2_with (at_make; refine wpList_make_full _ rfl _ _ 22 rfl w.heap.size 5 i0 (.int .u8 0) 1 Try.underlying22 hi hz0 hz1 _ _ _ _ len rfl rfl rfl rfl (by rw [hz2]; omega) (by unfold maxLen; omega) (Nat.le_refl _) ?_; intro w1 hown1 hgrow1; refine Hid.out ?_)
  refine Lib.hid ?_
  obtain ⟨g, cap', cur, hv, -, hh, -, -, hsz, -⟩ : ∃ g cap' cur, Value.slice (some ⟨w.heap.size, 0, none⟩) len len = .slice (some ⟨g, 0, none⟩) len cap' ∧ w.heap.size ≤ g ∧ w1.heap[g]? = some (.cells cur 5 (0, 0)) ∧ len ≤ cap' ∧ cap' ≤ maxLen ∧ cur.size = cap' * 1 ∧ cur.toList.take (len * 1) = (madeCells (Value.int .u8 0).cells (len * 1)).toList := by
    rcases hown1.2 with ⟨h, _⟩ | h
    · cases h
    · exact h
  simp only [Value.slice.injEq, Option.some.injEq, Addr.mk.injEq] at hv
  obtain ⟨⟨rfl, -⟩, -, rfl⟩ := hv
  obtain ⟨L, rfl⟩ : ∃ L : List Value, cur = L.toArray := ⟨cur.toList, by simp⟩
  have hL : L.length = len := by simpa using hsz
  have hsrc : ∀ j v, (bcells l)[j]? = some v → w1.cell? (x.add j) = some v := bcells_src (fun j hj => hgrow1.cell (HC.out j hj) (by simp))
  have hb1 : Below w.heap.size w w1 := (Below.refl _ _).grown hgrow1 (Nat.le_refl _) (by simp)
  have hcl : (bcells l).length = len := by rw [bcells_len]; exact HL.out
  have HSP : Hid (splice L 0 (bcells l) = bcells l) := by show splice L 0 (bcells l) = _; simp [splice]; omega
  have hone := bcells_one l
  obtain ⟨cs, Hcs⟩ : ∃ cs, Hid (cs = bcells l) := ⟨_, rfl⟩
  rw [← Hcs.out] at hsrc hcl hone HSP
  clear hown1
  go_wp2_with (refine wpList_copy_splice rfl (.tmp 19) (.tmp 20) 22 22 rfl 5 Try.underlying22 (by rw [hi]; simp [hz1]) _ _ len len len cap rfl rfl w.heap.size 0 L 5 hh cs (by rw [hcl]; simp) (fun _ => ⟨rfl, x, rfl, hsrc⟩) (by omega) hone w.heap.size w hb1 (Nat.le_refl _) ?_; intro w2 HG hb2; refine Hid.out ?_)
  refine Lib.hid ?_
  have hcell : ∀ j (hj : j < l.length), w2.cell? ⟨w.heap.size, j, none⟩ = some (.int .u8 (l[j].toNat : Int)) := cells_of_row (t := 5) (by rw [HG.out, HSP.out, Hcs.out])
  have hgs : w.heap.size < w2.heap.size := by
    rcases Nat.lt_or_ge w.heap.size w2.heap.size with h | h
    · exact h
    · have := HG.out; rw [Array.getElem?_eq_none h] at this; cases this
  clear hsrc hone hcl HSP Hcs HG hh hL hsz hb1 hgrow1
  have hlies : Lies w2 (some ⟨w.heap.size, 0, none⟩) len len l := ⟨HL.out, Nat.le_refl _, Or.inr ⟨w.heap.size, 0, rfl, fun j hj => by rw [Nat.zero_add]; exact hcell j hj⟩⟩
  obtain ⟨A, HA⟩ : ∃ A : ByteArray, Hid ((⟨(l.take 64).toArray⟩ : ByteArray) = A) := ⟨_, rfl⟩
  go_wp2_with fail
  refine (trunc_str A _ _ _ l _ hlies (by omega) HA.out).mono ?_
  rintro e w' ⟨rfl, rfl⟩
  have hAs : A.size = min 64 len := by rw [← HA.out]; simp [ByteArray.size, HL.out]
  have hA1 : A.size ≤ 64 := by omega
  have hA2 : A.size ≤ len := by omega
  have hAg : ∀ k (h : k < A.size), w2.cell? ⟨w.heap.size, k, none⟩ = some (.int .u8 (A[k].toNat : Int)) := by
    intro k h
    have hk : k < l.length := by have := HL.out; omega
    rw [hcell k hk]
    have e : A[k] = l[k] := by
      have := HA.out
      subst this
      simp [ByteArray.getElem_eq_getElem_data]
    rw [e]
  have HAg := Lib.hid hAg
  clear hAg
  go_wp2_with fail
  refine (min_is _ _ (A.size : Int) _ (by omega)).mono ?_
  rintro e w' ⟨rfl, rfl⟩
  have HS := Lib.hid hAs
  clear hAs
  go_wp2
  go_loopw [6] (fun i wr => ∃ (k nq : Nat), k ≤ A.size ∧ i = .int .i64 k ∧ wr = w2.drewN nq) (fun i _ => A.size - (intOf i).toNat)
  case atStart => exact ⟨0, 0, Nat.zero_le _, rfl, rfl⟩
  case round =>
    obtain ⟨k, nq, hk, rfl, rfl⟩ := hrel
    by_cases hlt : k < A.size
    · have c1 := HAg.out k hlt
      have hkl : k < len := by omega
      go_wp2
      go_region
      go_wp2
      go_roundw
      case rel => exact ⟨k + 1, nq + 1, by omega, by go_num, rfl⟩
      case measure => simp [intOf]; omega
    · obtain rfl : k = A.size := by omega
      have hcb := fun w => Lib.run_convert_string_bytes (P := Try.prog) w 9 22 5 A Try.underlying9 Try.underlying22 Try.underlying5
      have hlb := lies_bytes (w2.drewN nq) A
      have hold : ∀ p : Addr, p.block < w2.heap.size → (Lib.bytesWorld (w2.drewN nq) 5 A).cell? p = w2.cell? p := fun p hp => Lib.bytesWorld_old (w2.drewN nq) 5 A p hp
      have hB3 : Below w.heap.size w (Lib.bytesWorld (w2.drewN nq) 5 A) := hb2.trans ⟨rfl, rfl, rfl, by rw [Lib.bytesWorld_size]; exact Nat.le_succ _, fun j hj => Lib.bytesWorld_at_old _ _ _ _ (Nat.lt_of_lt_of_le hj hb2.size)⟩
      have hgl : w.heap.size < w2.heap.size := hgs
      go_wp2_with fail
      generalize Lib.bytesWorld (w2.drewN nq) 5 A = W3 at *
      refine (trunc_str A _ _ _ _ _ hlb (by omega) (trunc_self A hA1)).mono ?_
      rintro e w' ⟨rfl, rfl⟩
      have hcell3 : ∀ j (hj : j < l.length), W3.cell? ⟨w.heap.size, j, none⟩ = some (.int .u8 (l[j].toNat : Int)) := fun j hj => by rw [hold _ hgl]; exact hcell j hj
      have HC3 := Lib.hid hcell3
      clear hlb hold hcb hcell3 hcell hlies
      go_wp2
      go_loop [7] (fun i => ∃ k : Nat, k ≤ len + 1 ∧ i = .int .i64 k) (fun i => len + 1 - (intOf i).toNat)
      case atStart => exact ⟨0, Nat.zero_le _, rfl⟩
      case round =>
        obtain ⟨k, hk, rfl⟩ := hrel
        by_cases hlt : k ≤ len
        · obtain ⟨m, HM⟩ : ∃ m, Hid (m = min k 64) := ⟨_, rfl⟩
          have hm1 : m ≤ k := by have := HM.out; omega
          have hm2 : m ≤ A.size := by have := HM.out; have := HS.out; omega
          have hlk : Lies W3 (some ⟨w.heap.size, 0, none⟩) k len (l.take k) := ⟨by have := HL.out; simp; omega, hlt, Or.inr ⟨w.heap.size, 0, rfl, fun j hj => by
            have hj' : j < l.length := by simp at hj; omega
            rw [Nat.zero_add, HC3.out j hj', List.getElem_take]⟩⟩
          have hres : (⟨((l.take k).take 64).toArray⟩ : ByteArray) = A.extract 0 m := by rw [← HA.out]; exact trunc_prefix l k m HM.out
          have HLK := Lib.hid hlk
          have HR := Lib.hid hres
          clear hlk hres
          go_wp2_with (first | (go_at_call 6; refine (trunc_str (A.extract 0 m) _ _ _ _ _ HLK.out (by omega) HR.out).mono ?_; rintro e w' ⟨rfl, rfl⟩) | (go_at_call 7; refine (min_is _ _ (m : Int) _ (by have := HM.out; omega)).mono ?_; rintro e w' ⟨rfl, rfl⟩))
          go_round
          case rel => exact ⟨k + 1, by omega, by go_num⟩
          case measure => simp [intOf]; omega
        · go_wp2
          go_ret
          exact ⟨rfl, hB3⟩

set_option maxHeartbeats 4000000 in
set_option maxRecDepth 100000 in
theorem pre_nil (w : World) :
    Calls Try.prog 4 #[.slice none 0 0] w fun e w' => e = .returned (.bool true) ∧ Below w.heap.size w w' := by
  have hnil := fun w => run_neq_slice_nil_any (P := Try.prog) w 22 5 none 0 0 0 0 Try.underlying22
  obtain ⟨A, HA⟩ : ∃ A : ByteArray, Hid (A = ⟨([] : List UInt8).toArray⟩) := ⟨_, rfl⟩
  have hA1 : A.size ≤ 0 := by rw [HA.out]; exact Nat.le_refl _
  have hnl : ∀ w : World, Lies w none 0 0 [] := fun w => ⟨rfl, Nat.le_refl _, Or.inl ⟨rfl, rfl, rfl⟩⟩
  have hcb := fun w => Lib.run_convert_string_bytes (P := Try.prog) w 9 22 5 A Try.underlying9 Try.underlying22 Try.underlying5
  have HNL := Lib.hid hnl
  clear hnl
  go_enter Try.func4, Try.ntmps4
  go_wp2_with fail
  refine (pbytes_ok _ _ _ _ (by omega)).mono ?_
  rintro e w' ⟨rfl, rfl⟩
  go_wp2_with fail
  refine (trunc_str A _ _ _ _ _ (HNL.out _) (by omega) HA.out.symm).mono ?_
  rintro e w' ⟨rfl, rfl⟩
  go_wp2_with fail
  refine (min_is _ _ (A.size : Int) _ (by omega)).mono ?_
  rintro e w' ⟨rfl, rfl⟩
  go_wp2
  go_loop [6] (fun i => i = .int .i64 0) (fun i => 0)
  case atStart => rfl
  case round =>
    subst hrel
    have hlb := lies_bytes w A
    have hB3 : Below w.heap.size w (Lib.bytesWorld w 5 A) := ⟨rfl, rfl, rfl, by rw [Lib.bytesWorld_size]; exact Nat.le_succ _, fun j hj => Lib.bytesWorld_at_old _ _ _ _ hj⟩
    go_wp2_with fail
    generalize Lib.bytesWorld w 5 A = W3 at *
    refine (trunc_str A _ _ _ _ _ hlb (by omega) (trunc_self A (by omega))).mono ?_
    rintro e w' ⟨rfl, rfl⟩
    clear hlb hcb
    go_wp2
    go_loop [7] (fun i => ∃ k : Nat, k ≤ 1 ∧ i = .int .i64 k) (fun i => 1 - (intOf i).toNat)
    case atStart => exact ⟨0, Nat.zero_le _, rfl⟩
    case round =>
      obtain ⟨k, hk, rfl⟩ := hrel
      by_cases hlt : k = 0
      · subst hlt
        have hex : (⟨(([] : List UInt8).take 64).toArray⟩ : ByteArray) = A.extract 0 0 := by apply ba_ext; rw [Lib.extract_data]; simp
        have HX := Lib.hid hex
        clear hex
        go_wp2_with (first | (go_at_call 6; refine (trunc_str (A.extract 0 0) _ _ _ _ _ (HNL.out _) (by omega) HX.out).mono ?_; rintro e w' ⟨rfl, rfl⟩) | (go_at_call 7; refine (min_is _ _ 0 _ (by omega)).mono ?_; rintro e w' ⟨rfl, rfl⟩))
        go_round
        case rel => exact ⟨1, by omega, by go_num⟩
        case measure => simp [intOf]
      · obtain rfl : k = 1 := by omega
        go_wp2
        go_ret
        exact ⟨rfl, hB3⟩
end Go.Proofs.Qxb6613636a
