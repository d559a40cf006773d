import Derived.Test.Qxb6608916aDoorText
namespace Go.Proofs.Qxb6608916aDoor
open Go.RowKit Go.Shelf
set_option linter.unusedVariables false

/-- The bytes of the text of Gas{n, per}. -/
def gall (n per : Int) : List Int := if per = 0 then [48] else gbytes n per

theorem gtxt_gall (n per : Int) (h : gasOk n per) : gtxt n per = ucells (gall n per) := by
  by_cases h0 : per = 0
  · unfold gtxt gall; rw [if_pos h0, if_pos h0]; rfl
  · rcases h with h | ⟨hn, hn2, hp, hp2⟩
    · exact absurd h h0
    · rw [gtxt_eq n per h0 (gW_bd n per hn hn2 hp).1]; unfold gall; rw [if_neg h0]

theorem digsAt_len (F : Int) (j : Nat) : (digsAt F j).length ≤ 3 := by
  match j with
  | 0 => simp [digsAt]
  | 1 => simp [digsAt]
  | 2 => simp [digsAt]
  | _ + 3 => simp [digsAt]

theorem gall_len (n per : Int) (h : gasOk n per) : 1 ≤ (gall n per).length ∧ (gall n per).length ≤ 100 := by
  unfold gall
  by_cases h0 : per = 0
  · rw [if_pos h0]; simp
  · rcases h with h | ⟨hn, hn2, hp, hp2⟩
    · exact absurd h h0
    · rw [if_neg h0]
      obtain ⟨W0, W1⟩ := gW_bd n per hn hn2 hp
      have h1 := (ibytes_facts (gW n per).toNat).1
      have h2 := Lib.itoa_length_le (gW n per) (by omega) W1
      have h3 : (Lib.itoa (gW n per)).length = (ibytes (gW n per).toNat).length := by unfold Lib.itoa ibytes; rw [if_neg (by omega)]; simp
      have h4 : (fbytes (gF n per)).length ≤ 4 := by
        unfold fbytes; split
        · simp
        · have := digsAt_len (gF n per) (flen (gF n per)); simp; omega
      unfold gbytes
      rw [List.length_append]; omega

set_option maxHeartbeats 1000000 in
theorem textOk_zero (b off cap : Nat) (n : Int) (w : World) (hc : w.cell? ⟨b, off, none⟩ = some (.int .u8 48)) :
    Calls Tryd.prog 9 #[.int .i64 n, .int .i64 0, .slice (some ⟨b, off, none⟩) 1 cap] w fun e w' => e = .returned (.bool true) ∧ w = w' := by
  go_enter Tryd.func9, Tryd.ntmps9
  go_wp2
  go_ret
  exact ⟨rfl, rfl⟩

set_option maxHeartbeats 1000000 in
theorem textOk_pos (b off cap N : Nat) (n per : Int) (w : World) (hn : 0 ≤ n) (hn2 : n ≤ 9223372036854775807) (hp : 0 < per) (hp2 : per ≤ 9223372036854775) (hN : Hid (N = (gbytes n per).length)) (hNb : N ≤ 1000)
    (hc : ∀ i, i < (gbytes n per).length → w.cell? ⟨b, off + i, none⟩ = some (.int .u8 ((gbytes n per).getD i 0))) :
    Calls Tryd.prog 9 #[.int .i64 n, .int .i64 per, .slice (some ⟨b, off, none⟩) N cap] w fun e w' => e = .returned (.bool true) ∧ w = w' := by
  have hp0 : (per == 0) = false := by simp; omega
  have hpg := parse_gas b off cap N n per w hn hn2 hp hN.out hNb hc
  have hrd := round_ok n per w hn hn2 hp hp2
  have HP := Lib.hid hpg
  have HR := Lib.hid hrd
  clear hpg hrd hc
  go_enter Tryd.func9, Tryd.ntmps9
  go_wp2_with (first | (go_at_call 10; refine HP.out.mono ?_; rintro e w' ⟨rfl, rfl⟩) | (go_at_call 13; refine HR.out.mono ?_; rintro e w' ⟨rfl, rfl⟩))
  go_ret
  exact ⟨rfl, rfl⟩

/-- 'zzGasTextOK' of the text of Gas{n, per}: true. -/
theorem textOk (b off cap N : Nat) (n per : Int) (w : World) (hok : gasOk n per) (hN : N = (gall n per).length)
    (hc : ∀ i, i < (gall n per).length → w.cell? ⟨b, off + i, none⟩ = some (.int .u8 ((gall n per).getD i 0))) :
    Calls Tryd.prog 9 #[.int .i64 n, .int .i64 per, .slice (some ⟨b, off, none⟩) N cap] w fun e w' => e = .returned (.bool true) ∧ w = w' := by
  have hl := gall_len n per hok
  by_cases h0 : per = 0
  · subst h0
    have e : gall n 0 = [48] := rfl
    rw [e] at hN hc
    subst hN
    exact textOk_zero b off cap n w (hc 0 (by simp))
  · rcases hok with h | ⟨hn, hn2, hp, hp2⟩
    · exact absurd h h0
    · have e : gall n per = gbytes n per := by unfold gall; rw [if_neg h0]
      rw [e] at hN hc hl
      exact textOk_pos b off cap N n per w hn hn2 hp hp2 hN (by omega) hc
end Go.Proofs.Qxb6608916aDoor
