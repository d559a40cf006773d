import Derived.Test.Qxb6613577aNew
import Derived.Test.Qxb6613577aRoute
import Derived.Test.Qxb6613577aGuards
import Derived.Test.Qxb6613577aConfig
import Derived.Test.Qxb6613577aOwn
import Derived.Lib.Builder
namespace Go.Proofs.Qxb6613577a
open Go.RowKit
set_option linter.unusedVariables false
set_option linter.unusedSimpArgs false

theorem some65 : (Try.prog.info? 65).isSome = true := by kernel_rfl
theorem some40 : (Try.prog.info? 40).isSome = true := by kernel_rfl

def TopPost (w : World) (e : Ending) (w' : World) : Prop := e = .returned (.bool true) ∧ Below w.heap.size w w'

set_option maxHeartbeats 4000000 in
set_option maxRecDepth 100000 in
theorem top4_any (nl : Int) (a : Option Addr) (n cap : Nat) (ds : List DS) (w : World) (hm : n ≤ 9223372036854775807) (hs : SpecAt w a n ds) :
    Calls Try.prog 4 #[.int .i64 nl, .slice a n cap] w fun e w' => TopPost w e w' := by
  have HS := Lib.hid hs
  have hnd : n = ds.length := hs.1
  have HN := Lib.hid hnd
  clear hs hnd
  go_enter Try.func4, Try.ntmps4
  go_wp2_with fail
  refine (bytes18 nl a n cap ds w hm HS.out).mono ?_
  rintro e w' ⟨rfl | ⟨rfl, -⟩, rfl⟩
  · go_wp2
    go_ret
    exact ⟨rfl, Below.refl _ _⟩
  by_cases h4 : 4096 < n
  · go_wp2
    go_ret
    exact ⟨rfl, Below.refl _ _⟩
  have d4 : decide ((4096 : Int) < (n : Int)) = false := decide_eq_false (by omega)
  go_wp2_with fail
  refine (tooBig_any a n cap ds w hm HS.out).mono ?_
  rintro e w' ⟨rfl | ⟨rfl, hn4, hsum, hrn⟩, rfl⟩
  · go_wp2
    go_ret
    exact ⟨rfl, Below.refl _ _⟩
  have HRN := Lib.hid hrn
  have HSM := Lib.hid hsum
  clear hrn hsum
  by_cases hn0 : nl < 0
  · go_wp2
    go_ret
    exact ⟨rfl, Below.refl _ _⟩
  by_cases hn6 : 65536 < nl
  · go_wp2
    go_ret
    exact ⟨rfl, Below.refl _ _⟩
  obtain ⟨m, rfl⟩ : ∃ m : Nat, nl = m := ⟨nl.toNat, by omega⟩
  have hm6 : m ≤ 65536 := by omega
  have dm1 : decide ((m : Int) < 0) = false := decide_eq_false (by omega)
  have dm2 : decide ((65536 : Int) < (m : Int)) = false := decide_eq_false (by omega)
  go_wp2_with fail
  refine (inRange_any m a n cap ds w hn4 hm6 HS.out HRN.out).mono ?_
  rintro e w' ⟨rfl | ⟨rfl, hin⟩, rfl⟩
  · go_wp2
    go_ret
    exact ⟨rfl, Below.refl _ _⟩
  have HIN := Lib.hid hin
  clear hin
  go_wp2_with fail
  refine (config_any m a n cap ds w hn4 hm6 HS.out HRN.out HIN.out).mono ?_
  rintro e w1 ⟨c, pdf, rfl, hc1, hb1⟩
  have HC1 := Lib.hid hc1
  clear hc1
  go_wp2_with fail
  refine (own_any c m ds pdf w1 (by rw [← HN.out]; exact hn4) HC1.out).mono ?_
  rintro e w2 ⟨mb, rfl, hmine, hb2⟩
  have HC2 := Lib.hid (HC1.out.same (below_cells hb2 (Nat.le_refl _)))
  have HMI := Lib.hid hmine
  rw [← HN.out] at HMI
  clear hmine
  rw [← HN.out]
  go_wp2_with fail
  refine (new_any c m n ds pdf w2 HN.out HC2.out hm6 hn4 HSM.out (HS.out.2.1) HRN.out).mono ?_
  rintro e w3 ⟨t, dm, mm, vb, ub, lv, dst, D, rfl, ⟨hT, hDs⟩, -, hb3⟩
  have HT := Lib.hid hT
  have HD := Lib.hid hDs
  obtain ⟨al, cp, rfl, hal⟩ : ∃ al cp, lv = .slice al n cp ∧ (0 < n → ∃ g, al = some ⟨g, 0, none⟩) := by
    rcases hT.list.2 with ⟨h, h0⟩ | ⟨g, cap, cur, h, -⟩
    · exact ⟨none, 0, by rw [h, h0], fun h => absurd h (by omega)⟩
    · exact ⟨_, cap, h, fun _ => ⟨g, rfl⟩⟩
  have HAL := Lib.hid hal
  have t6 : w3.cell? ⟨t, 6, none⟩ = some (.int .i64 0) := by rw [cell_of_row w3 t 6 _ 76 _ hT.head]; rfl
  have t2 : w3.cell? ⟨t, 2, none⟩ = some (.slice al n cp) := by rw [cell_of_row w3 t 2 _ 76 _ hT.head]; rfl
  have t5 : w3.cell? ⟨t, 5, none⟩ = some (.slice (some ⟨ub, 0, none⟩) m m) := by rw [cell_of_row w3 t 5 _ 76 _ hT.head]; rfl
  have HB : Hid (Below w.heap.size w w3) := (hb1.trans (hb2.mono hb1.size)).trans (hb3.mono (Nat.le_trans hb1.size hb2.size))
  have HUP : Hid (∀ i, i < m → w3.cell? ⟨ub, i, none⟩ = some (.bool false)) := fun i hi => by
    obtain ⟨us, u1, u2⟩ := HT.out.ups
    rw [cell_of_row w3 ub i _ 4 _ u1]; exact u2 i hi
  have HC3 := Lib.hid (HC2.out.same (below_cells hb3 (Nat.le_refl _)))
  have HM3 : Hid (MineAt w3 mb n pdf) := fun i hi => below_cells hb3 (Nat.le_refl _) _ _ (HMI.out i hi)
  have hs1 := hb1.size
  have hs2 := hb2.size
  have hs3 := hb3.size
  clear hT hDs hal hb1 hb2 hb3 HC1 HC2 HMI
  go_wp2_with fail
  refine (dests_any t _ w3 t6 t2).mono ?_
  rintro e w' ⟨rfl, rfl⟩
  have nn : ((n : Int) == (n : Int)) = true := by simp
  go_wp2
  go_loopw [9] (fun i wr => ∃ k : Nat, k ≤ n ∧ i = .int .i64 k ∧ Below w'.heap.size w' wr) (fun i _ => n - (intOf i).toNat)
  case atStart => exact ⟨0, Nat.zero_le _, rfl, Below.refl _ _⟩
  case round =>
    obtain ⟨k, hk, rfl, hbr⟩ := hrel
    obtain ⟨wo, rfl⟩ : ∃ wo : World, wo = wr := ⟨_, rfl⟩
    by_cases hlt : k < n
    · obtain ⟨g, rfl⟩ := HAL.out (by omega)
      have hkl : k < ds.length := by rw [← HN.out]; exact hlt
      have hdk : ds[k]? = some ds[k] := List.getElem?_eq_getElem hkl
      obtain ⟨lsb, pb, -, -, hP⟩ := HC3.out
      obtain ⟨-, hX, -, -, -, ra, g4, hra⟩ := hP k hkl hkl
      obtain ⟨nv, rb, rs, h1, h2, h3⟩ := HD.out k _ hdk
      have hrn := HRN.out _ (List.getElem_mem hkl)
      obtain ⟨d0, hd0⟩ : ∃ d0, dst k = d0 := ⟨_, rfl⟩
      obtain ⟨p, hpp⟩ : ∃ p, pdf k = p := ⟨_, rfl⟩
      rw [hd0, hpp] at h1
      rw [hpp] at g4
      have z0 : w'.cell? ⟨d0, 0, none⟩ = some (.pointer (some ⟨p, 0, none⟩)) := by rw [cell_of_row w' d0 0 _ 40 _ h1]; rfl
      have z2 : w'.cell? ⟨d0, 2, none⟩ = some (.slice (some ⟨rb, 0, none⟩) ds[k].rn ds[k].rn) := by rw [cell_of_row w' d0 2 _ 40 _ h1]; rfl
      have zl : w'.cell? ⟨g, k, none⟩ = some (.pointer (some ⟨d0, 0, none⟩)) := by
        have := HT.out.list.cells (g := g) rfl k (.pointer (some ⟨dst k, 0, none⟩)) (by simp [hlt])
        rw [Addr.add_lit, Nat.zero_add, hd0] at this
        exact this
      have zm : w'.cell? ⟨mb, k, none⟩ = some (.pointer (some ⟨p, 0, none⟩)) := by rw [← hpp]; exact HM3.out k hlt
      have RT : Hid (∀ W, Below w'.heap.size w' W → Calls Try.prog 19 #[.pointer (some ⟨t, 0, none⟩), .pointer (some ⟨d0, 0, none⟩)] W fun e w4 => RoutePost W e w4) := fun W hW => by
        have bc := below_cells hW (Nat.le_refl _)
        exact route_any t d0 p ub rb m ds[k].rn pb ra W (bc _ _ t5) (fun i hi => bc _ _ (HUP.out i hi)) (bc _ _ z0) (bc _ _ z2) (fun i hi => bc _ _ (by rw [cell_of_row w' rb i _ 53 _ h2]; exact h3 i hi)) (bc _ _ g4) hrn (hra.same (Same.below (X := pb) hW (Nat.le_refl _)))
      have y0 := below_cells hbr (Nat.le_refl _) _ _ z0
      have yl := below_cells hbr (Nat.le_refl _) _ _ zl
      have ym := below_cells hbr (Nat.le_refl _) _ _ zm
      clear hP hX g4 hra h1 h2 h3 hd0 hpp z0 z2 zl zm hdk
      obtain ⟨j65, hj65⟩ := Option.isSome_iff_exists.1 some65
      have hneq : ∀ u : World, (binOp .neq 36 (.pointer (some ⟨p, 0, none⟩)) (.pointer (some ⟨p, 0, none⟩))).run Try.prog u = .ok (.bool false) u := fun u => Lib.run_neq_ptr_same u _ Try.underlying36 hj65
      clear hj65
      go_wp2
      go_quiet (fail)
      go_wp2_with (go_at_call 19; refine (RT.out _ (below_drewN hbr)).mono ?_; rintro e w4 ⟨rfl, hb4⟩)
      go_roundw
      case rel => exact ⟨k + 1, by omega, by go_num, (below_drewN hbr).trans (hb4.mono hbr.size)⟩
      case measure => simp [intOf]; omega
    · obtain rfl : n = k := by omega
      go_wp2
      go_ret
      exact ⟨rfl, HB.out.trans (hbr.mono HB.out.size)⟩
end Go.Proofs.Qxb6613577a
