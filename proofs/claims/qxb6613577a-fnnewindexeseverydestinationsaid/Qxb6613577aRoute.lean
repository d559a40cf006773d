import Derived.Test.Qxb6613577aDst
import Derived.Deep.QuietTactic
import Derived.BigQuiet
namespace Go.Proofs.Qxb6613577a
open Go.RowKit
set_option linter.unusedVariables false
set_option linter.unusedSimpArgs false

set_option maxHeartbeats 2000000 in
theorem compact_any (t : Nat) (w : World) (t6 : w.cell? ⟨t, 6, none⟩ = some (.int .i64 0)) :
    Calls Try.prog 22 #[.pointer (some ⟨t, 0, none⟩)] w fun e w' => e = .returned (.tuple #[]) ∧ w = w' := by
  go_enter Try.func22, Try.ntmps22
  go_wp2
  first
    | (go_end0; exact ⟨rfl, rfl⟩)
    | (refine bodyPost_ret (results_none rfl _ _ _) rfl ?_; exact ⟨rfl, rfl⟩)

set_option maxHeartbeats 2000000 in
theorem dests_any (t : Nat) (lv : Value) (w : World) (t6 : w.cell? ⟨t, 6, none⟩ = some (.int .i64 0)) (t2 : w.cell? ⟨t, 2, none⟩ = some lv) :
    Calls Try.prog 11 #[.pointer (some ⟨t, 0, none⟩)] w fun e w' => e = .returned lv ∧ w' = w := by
  go_enter Try.func11, Try.ntmps11
  go_wp2_with (go_at_call 22; refine (compact_any t w t6).mono ?_; rintro e w' ⟨rfl, rfl⟩)
  go_ret
  exact ⟨rfl, rfl⟩

def RoutePost (w : World) (e : Ending) (w' : World) : Prop := e = .returned (.tuple #[.int .u8 2, .slice none 0 0]) ∧ Below w.heap.size w w'

set_option maxHeartbeats 2000000 in
set_option maxRecDepth 100000 in
theorem route_any (t d0 p ub rb nl rn X : Nat) (ra : Option Addr) (w : World) (t5 : w.cell? ⟨t, 5, none⟩ = some (.slice (some ⟨ub, 0, none⟩) nl nl)) (hu : ∀ i, i < nl → w.cell? ⟨ub, i, none⟩ = some (.bool false))
    (e0 : w.cell? ⟨d0, 0, none⟩ = some (.pointer (some ⟨p, 0, none⟩))) (e2 : w.cell? ⟨d0, 2, none⟩ = some (.slice (some ⟨rb, 0, none⟩) rn rn)) (hr : ∀ i, i < rn → w.cell? ⟨rb, i, none⟩ = some (.int .u8 0))
    (p4 : w.cell? ⟨p, 4, none⟩ = some (.slice ra rn rn)) (hn : rn ≤ 65536) (hrt : RoutesAt w X nl ra rn) :
    Calls Try.prog 19 #[.pointer (some ⟨t, 0, none⟩), .pointer (some ⟨d0, 0, none⟩)] w fun e w' => RoutePost w e w' := by
  have HU := Lib.hid hu
  have HR := Lib.hid hr
  have HRT := Lib.hid hrt
  clear hu hr hrt
  go_enter Try.func19, Try.ntmps19
  go_wp2
  go_loopw [6, 7, 19] (fun s6 s7 i wr => s6 = .slice none 0 0 ∧ s7 = .int .u8 2 ∧ ∃ j : Nat, j ≤ rn ∧ i = .int .i64 j ∧ Below w.heap.size w wr) (fun _ _ i _ => rn - (intOf i).toNat)
  case atStart => exact ⟨rfl, rfl, 0, Nat.zero_le _, rfl, Below.refl _ _⟩
  case round =>
    obtain ⟨rfl, rfl, j, hj, rfl, hbr⟩ := hrel
    obtain ⟨wo, rfl⟩ : ∃ wo : World, wo = wr := ⟨_, rfl⟩
    by_cases hlt : j < rn
    · obtain ⟨ro, rfl, -, hcs⟩ := HRT.out.resolve_left (by omega)
      obtain ⟨lk, idx, cost, z1, z2, z3, -, hidx⟩ := hcs j hlt
      have y1 := below_cells hbr (Nat.le_refl _) _ _ z1
      have y2 := below_cells hbr (Nat.le_refl _) _ _ z2
      have y3 := below_cells hbr (Nat.le_refl _) _ _ z3
      have y4 := below_cells hbr (Nat.le_refl _) _ _ (HU.out idx hidx)
      have y5 := below_cells hbr (Nat.le_refl _) _ _ (HR.out j hlt)
      have y6 := below_cells hbr (Nat.le_refl _) _ _ t5
      have y7 := below_cells hbr (Nat.le_refl _) _ _ e0
      have y8 := below_cells hbr (Nat.le_refl _) _ _ e2
      have hws := hbr.size
      have l1 : lk < wo.heap.size := World.block_lt_of_cell? wo _ y3
      have l2 : ub < wo.heap.size := World.block_lt_of_cell? wo _ y4
      have l3 : rb < wo.heap.size := World.block_lt_of_cell? wo _ y5
      have l4 : t < wo.heap.size := World.block_lt_of_cell? wo _ y6
      have l5 : d0 < wo.heap.size := World.block_lt_of_cell? wo _ y7
      have i1 : (0 : Int) ≤ (idx : Int) := by omega
      have i2 : (idx : Int) < (nl : Int) := by omega
      clear hcs z1 z2 z3
      go_wp2
      go_quiet (fail)
      go_wp2
      go_roundw
      case rel => exact ⟨rfl, rfl, j + 1, by omega, by go_num, below_drewN (hbr.alloc hws _)⟩
      case measure => simp [intOf]; omega
    · obtain rfl : rn = j := by omega
      go_wp2
      go_quiet (fail)
      go_wp2
      go_ret2
      exact ⟨rfl, below_drewN hbr⟩
end Go.Proofs.Qxb6613577a
