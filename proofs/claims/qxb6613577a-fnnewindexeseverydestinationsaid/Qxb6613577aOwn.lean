import Derived.Test.Qxb6613577aMem
namespace Go.Proofs.Qxb6613577a
open Go.RowKit
set_option linter.unusedVariables false

theorem info36' : (Try.prog.info? 36).map (fun i => (i.zero, i.size, i.bytes)) = some (some (.pointer none), 1, 8) := by kernel_rfl

def MineAt (w : World) (mb n : Nat) (pdf : Nat → Nat) : Prop := ∀ t, t < n → w.cell? ⟨mb, t, none⟩ = some (.pointer (some ⟨pdf t, 0, none⟩))
def OwnPost (w : World) (n : Nat) (pdf : Nat → Nat) (e : Ending) (w' : World) : Prop := ∃ mb, e = .returned (.slice (some ⟨mb, 0, none⟩) n n) ∧ MineAt w' mb n pdf ∧ Below w.heap.size w w'

set_option maxHeartbeats 2000000 in
set_option maxRecDepth 100000 in
theorem own_any (c nl : Nat) (ds : List DS) (pdf : Nat → Nat) (w : World) (hn : ds.length ≤ 4096) (hc : CfgAt w c nl ds pdf) :
    Calls Try.prog 9 #[.pointer (some ⟨c, 0, none⟩)] w fun e w' => OwnPost w ds.length pdf e w' := by
  obtain ⟨i36, hi36, hz36, hs36, hb36⟩ := info_parts info36'
  obtain ⟨lsb, pb, k3, k4, hP⟩ := hc
  obtain ⟨n, Hn⟩ : ∃ n, Hid (ds.length = n) := ⟨_, rfl⟩
  rw [Hn.out] at hn k4 hP ⊢
  have HP := Lib.hid hP
  have K4 := Lib.hid k4
  have cl : c < w.heap.size := World.block_lt_of_cell? w _ k4
  clear hP k3
  go_enter Try.func9, Try.ntmps9
  go_wp2_with (at_make; refine wpList_make_full _ rfl _ _ 29 rfl w.heap.size 36 i36 (.pointer none) 1 Try.underlying29 hi36 hz36 hs36 _ _ _ _ n rfl rfl rfl rfl (by rw [hb36]; omega) (by unfold maxLen; omega) (Nat.le_refl _) ?_; intro w1 hown1 hgrow1; refine Hid.out ?_)
  refine Lib.hid ?_
  have hB1 : Below w.heap.size w w1 := (Below.refl _ _).grown hgrow1 (Nat.le_refl _) (by simp)
  have hT1 := there_made hown1 (by omega)
  rw [Nat.mul_one] at hT1
  have HT1 := Lib.hid hT1
  clear hown1 hgrow1 hT1 k4
  go_wp2
  go_loopw [4] (fun i wr => ∃ k : Nat, k ≤ n ∧ i = .int .i64 k ∧ Below w.heap.size w wr ∧ Hid (There wr w.heap.size n) ∧ Hid (MineAt wr w.heap.size k pdf)) (fun i _ => n - (intOf i).toNat)
  case atStart => exact ⟨0, Nat.zero_le _, rfl, hB1, HT1, fun t h => absurd h (by omega)⟩
  case round =>
    clear hB1 HT1
    obtain ⟨k, hk, rfl, hbr, HT, HM⟩ := hrel
    have k4 := below_cells hbr (Nat.le_refl _) _ _ K4.out
    by_cases hlt : k < n
    · have kp := below_cells hbr (Nat.le_refl _) _ _ (HP.out k (by have := Hn.out; omega) hlt).1
      obtain ⟨⟨v0, hv0⟩, z0⟩ := HT.out k hlt
      go_wp2
      go_roundw
      case rel =>
        refine ⟨k + 1, by omega, by go_num, hbr.setCell (Nat.le_refl _) _, HT.out.set _ _, fun t ht => ?_⟩
        by_cases e : t = k
        · subst e; rw [World.cell?_setCell_same _ _ _ hv0]
        · rw [World.cell?_setCell_other _ _ _ _ (off_ne (Ne.symm e))]; exact HM.out t (by omega)
      case measure => simp [intOf]; omega
    · obtain rfl : n = k := by omega
      go_wp2
      go_ret
      exact ⟨_, rfl, HM.out, hbr⟩
end Go.Proofs.Qxb6613577a
