import Derived.Test.Qxb6608916aDoorRows
import Derived.Test.Qxb6608916aDoorNum
import Derived.WalkKit
namespace Go.Proofs.Qxb6608916aDoor
open Go.RowKit
set_option linter.unusedVariables false

theorem vint {a b : Int} (h : a = b) : Value.int .i64 a = Value.int .i64 b := by rw [h]

set_option maxHeartbeats 1000000 in
/-- 'zzParseGas' of k digits, no fraction. -/
theorem parse_whole (b off k cap : Nat) (x : Nat → Int) (w : World) (hk : 1 ≤ k) (hbig : k ≤ 9223372036854775807)
    (hc : ∀ i, i < k → w.cell? ⟨b, off + i, none⟩ = some (.int .u8 (x i))) (hd : ∀ i, i < k → 48 ≤ x i ∧ x i ≤ 57) (h0 : 1 < k → x 0 ≠ 48) (hv : val x k ≤ 9223372036854775807) :
    Calls Tryd.prog 10 #[.slice (some ⟨b, off, none⟩) k cap] w fun e w' => e = .returned (.tuple #[.int .i64 (val x k), .int .i64 0, .bool true]) ∧ w = w' := by
  have hk0 : ((k : Int) == 0) = false := by simp; omega
  have hc0 := hc 0 (by omega)
  rw [Nat.add_zero] at hc0
  go_enter Tryd.func10, Tryd.ntmps10
  go_wp2
  go_loop [6, 7] (fun i v => ∃ j : Nat, j ≤ k ∧ i = .int .i64 j ∧ v = .int .i64 (val x j)) (fun i _ => k - (intOf i).toNat)
  case atStart => exact ⟨0, Nat.zero_le _, rfl, rfl⟩
  case round =>
    obtain ⟨j, hj, rfl, rfl⟩ := hrel
    have v0 := val_nonneg x j (fun i hi => hd i (by omega))
    by_cases hlt : j < k
    · have vm := val_mono x k hd (j + 1) (by omega)
      obtain ⟨d0, d1⟩ := hd j hlt
      have hcj := hc j hlt
      have HS : Hid (val x (j + 1) = val x j * 10 + (x j - 48)) := rfl
      have vs : val x j * 10 + (x j - 48) ≤ 9223372036854775807 := by rw [← HS.out]; omega
      clear vm
      by_cases h1 : j = 1
      · subst h1
        have hx0 : (x 0 == 48) = false := by simp; exact h0 (by omega)
        go_wp2
        go_round
        case rel => exact ⟨2, by omega, rfl, vint HS.out.symm⟩
        case measure => simp [intOf]; omega
      · have h1' : ((j : Int) == 1) = false := by simp; omega
        clear hc hd h0
        go_wp2
        go_round
        case rel => exact ⟨j + 1, by omega, by go_num, vint HS.out.symm⟩
        case measure => simp [intOf]; omega
    · obtain rfl : j = k := by omega
      go_wp2
      go_ret3
      exact ⟨rfl, rfl⟩

set_option maxHeartbeats 4000000 in
/-- 'zzParseGas' of k digits, a point, m digits more; V and F: the two numbers. -/
theorem parse_core (b off k m cap : Nat) (x y : Nat → Int) (z V F : Int) (w : World) (HV : Hid (V = val x k)) (HF : Hid (F = val y m * 10 ^ (3 - m))) (hk : 1 ≤ k) (hm : 1 ≤ m) (hm3 : m ≤ 3) (hbig : k + 1 + m ≤ 9223372036854775807)
    (hc : ∀ i, i < k → w.cell? ⟨b, off + i, none⟩ = some (.int .u8 (x i))) (hd : ∀ i, i < k → 48 ≤ x i ∧ x i ≤ 57) (h0 : 1 < k → x 0 ≠ 48) (hv : V ≤ 9223372036854775807)
    (hck : w.cell? ⟨b, off + k, none⟩ = some (.int .u8 46)) (hyc : ∀ i, i < m → w.cell? ⟨b, off + (k + 1 + i), none⟩ = some (.int .u8 (y i))) (hyd : ∀ i, i < m → 48 ≤ y i ∧ y i ≤ 57)
    (hlast : w.cell? ⟨b, off + (k + m), none⟩ = some (.int .u8 z)) (hz : (z == 48) = false) :
    Calls Tryd.prog 10 #[.slice (some ⟨b, off, none⟩) ((k + 1 + m : Nat)) cap] w fun e w' => e = .returned (.tuple #[.int .i64 V, .int .i64 F, .bool true]) ∧ w = w' := by
  have hk0 : ((k : Int) + 1 + (m : Int) == 0) = false := by simp; omega
  have hc0 := hc 0 (by omega)
  rw [Nat.add_zero] at hc0
  go_enter Tryd.func10, Tryd.ntmps10
  go_wp2
  go_loop [6, 7] (fun i v => ∃ j : Nat, j ≤ k ∧ i = .int .i64 j ∧ v = .int .i64 (val x j)) (fun i _ => k - (intOf i).toNat)
  case atStart => exact ⟨0, Nat.zero_le _, rfl, rfl⟩
  case round =>
    obtain ⟨j, hj, rfl, rfl⟩ := hrel
    have v0 := val_nonneg x j (fun i hi => hd i (by omega))
    by_cases hlt : j < k
    · have vm := val_mono x k hd (j + 1) (by omega)
      obtain ⟨d0, d1⟩ := hd j hlt
      have hcj := hc j (by omega)
      have HS : Hid (val x (j + 1) = val x j * 10 + (x j - 48)) := rfl
      have vs : val x j * 10 + (x j - 48) ≤ 9223372036854775807 := by rw [← HS.out]; have := HV.out; omega
      clear vm
      by_cases h1 : j = 1
      · subst h1
        have hx0 : (x 0 == 48) = false := by simp; exact h0 (by omega)
        clear hc hd h0 hyc hyd
        go_wp2
        go_round
        case rel => exact ⟨2, by omega, rfl, vint HS.out.symm⟩
        case measure => simp [intOf]; omega
      · have h1' : ((j : Int) == 1) = false := by simp; omega
        clear hc hd h0 hyc hyd
        go_wp2
        go_round
        case rel => exact ⟨j + 1, by omega, by go_num, vint HS.out.symm⟩
        case measure => simp [intOf]; omega
    · obtain rfl : j = k := by omega
      have hj0 : ((j : Int) == 0) = false := by simp; omega
      have hjn : ((j : Int) == (j : Int) + 1 + (m : Int)) = false := by simp; omega
      have hm0 : ((m : Int) == 0) = false := by simp; omega
      obtain ⟨-, -, F99⟩ := val_le999 y m hm3 hyd
      rw [← HF.out] at F99
      rw [← HV.out]
      clear hc hd h0 hc0 v0
      go_wp2
      go_loop [6, 9, 10] (fun i f d => ∃ t : Nat, t ≤ m ∧ i = .int .i64 ((j : Int) + 1 + (t : Int)) ∧ f = .int .i64 (val y t) ∧ d = .int .i64 t) (fun i _ d => m - (intOf d).toNat)
      case atStart => exact ⟨0, Nat.zero_le _, by simp, rfl, rfl⟩
      case round =>
        obtain ⟨t, ht, rfl, rfl, rfl⟩ := hrel
        obtain ⟨t0, t9, -⟩ := val_le999 y t (by omega) (fun i hi => hyd i (by omega))
        by_cases htm : t < m
        · obtain ⟨e0, e1⟩ := hyd t htm
          have hct := hyc t htm
          have ht3 : ((t : Int) == 3) = false := by simp; omega
          have HS : Hid (val y (t + 1) = val y t * 10 + (y t - 48)) := rfl
          clear hyd hyc
          go_wp2
          go_round
          case rel => exact ⟨t + 1, by omega, by go_num, vint HS.out.symm, by go_num⟩
          case measure => simp [intOf]; omega
        · obtain rfl : t = m := by omega
          obtain ⟨f, Hf⟩ : ∃ f : Int, Hid (f = val y t) := ⟨_, rfl⟩
          rw [← Hf.out] at t0 t9 ⊢
          clear hyd hyc
          go_wp2
          go_loop [9, 10] (fun f d => ∃ (fv : Int) (u : Nat), t ≤ u ∧ u ≤ 3 ∧ f = .int .i64 fv ∧ d = .int .i64 u ∧ 0 ≤ fv ∧ fv ≤ 999 ∧ Hid (fv * 10 ^ (3 - u) = F)) (fun _ d => 3 - (intOf d).toNat)
          case atStart => exact ⟨f, t, Nat.le_refl _, hm3, rfl, rfl, t0, t9, by rw [Hf.out]; exact HF.out.symm⟩
          case round =>
            obtain ⟨fv, u, hu, hu3, rfl, rfl, g0, g9, HG⟩ := hrel
            by_cases hu' : u < 3
            · go_wp2
              go_round
              case rel =>
                have e : fv * 10 * 10 ^ (3 - (u + 1)) = F := by
                  have : u = 1 ∨ u = 2 := by omega
                  have HG' := HG.out
                  rcases this with rfl | rfl <;> simp at HG' ⊢ <;> omega
                have b : fv * 10 ≤ 999 := by
                  have : u = 1 ∨ u = 2 := by omega
                  rcases this with rfl | rfl <;> simp at e <;> omega
                exact ⟨fv * 10, u + 1, by omega, by omega, rfl, by go_num, by omega, b, e⟩
              case measure => simp [intOf]; omega
            · obtain rfl : u = 3 := by omega
              have e : fv = F := by have HG' := HG.out; simpa using HG'
              subst e
              go_wp2
              go_ret3
              exact ⟨rfl, rfl⟩

/-- 'zzParseGas' of k digits, a point, m digits more. -/
theorem parse_frac (b off k m cap : Nat) (x : Nat → Int) (w : World) (hk : 1 ≤ k) (hm : 1 ≤ m) (hm3 : m ≤ 3) (hbig : k + 1 + m ≤ 9223372036854775807)
    (hc : ∀ i, i < k + 1 + m → w.cell? ⟨b, off + i, none⟩ = some (.int .u8 (x i))) (hd : ∀ i, i < k → 48 ≤ x i ∧ x i ≤ 57) (h0 : 1 < k → x 0 ≠ 48) (hv : val x k ≤ 9223372036854775807)
    (hp : x k = 46) (hd2 : ∀ i, i < m → 48 ≤ x (k + 1 + i) ∧ x (k + 1 + i) ≤ 57) (hl : x (k + m) ≠ 48) :
    Calls Tryd.prog 10 #[.slice (some ⟨b, off, none⟩) ((k + 1 + m : Nat)) cap] w fun e w' => e = .returned (.tuple #[.int .i64 (val x k), .int .i64 (val (fun i => x (k + 1 + i)) m * 10 ^ (3 - m)), .bool true]) ∧ w = w' :=
  parse_core b off k m cap x (fun i => x (k + 1 + i)) (x (k + m)) _ _ w rfl rfl hk hm hm3 hbig (fun i hi => hc i (by omega)) hd h0 hv (by rw [hc k (by omega), hp]) (fun i hi => hc _ (by omega)) hd2 (hc _ (by omega)) (by simp; exact hl)
end Go.Proofs.Qxb6608916aDoor
