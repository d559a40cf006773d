import Derived.Test.Qxb6608916aDoorGas
import Derived.Test.Qxb6608916aDoorParse
import Derived.Test.Qxb6608916aDoorRound
namespace Go.Proofs.Qxb6608916aDoor
open Go.RowKit Go.Shelf
set_option linter.unusedVariables false

/-- The bytes of u's decimal numeral, as integers. -/
def ibytes (u : Nat) : List Int := (Lib.decDigits u).map fun b => (b.toNat : Int)

theorem ofNat_toNat (k : Nat) (h : k < 256) : ((UInt8.ofNat k).toNat : Int) = k := by simp; omega

theorem ibytes_small {u : Nat} (h : u < 10) : ibytes u = [48 + (u : Int)] := by
  unfold ibytes; rw [Lib.decDigits, dif_pos h, List.map_cons, ofNat_toNat _ (by omega)]; simp
theorem ibytes_big {u : Nat} (h : ¬ u < 10) : ibytes u = ibytes (u / 10) ++ [48 + ((u % 10 : Nat) : Int)] := by
  unfold ibytes; rw [Lib.decDigits, dif_neg h, List.map_append, List.map_cons, ofNat_toNat _ (by omega)]; simp

theorem val_snoc (l : List Int) (d : Int) : val (fun i => (l ++ [d]).getD i 0) (l.length + 1) = val (fun i => l.getD i 0) l.length * 10 + (d - 48) := by
  simp only [val]
  rw [val_congr (fun i => (l ++ [d]).getD i 0) (fun i => l.getD i 0) l.length (fun i hi => by simp [List.getD, List.getElem?_append_left hi])]
  simp

theorem getD_snoc_left (l : List Int) (d : Int) (i : Nat) (h : i < l.length) : (l ++ [d]).getD i 0 = l.getD i 0 := by simp [List.getD, List.getElem?_append_left h]
theorem getD_snoc_last (l : List Int) (d : Int) : (l ++ [d]).getD l.length 0 = d := by simp [List.getD]

theorem ibytes_facts (u : Nat) : 1 ≤ (ibytes u).length ∧ (∀ i, i < (ibytes u).length → 48 ≤ (ibytes u).getD i 0 ∧ (ibytes u).getD i 0 ≤ 57) ∧ val (fun i => (ibytes u).getD i 0) (ibytes u).length = u ∧ (1 ≤ u → (ibytes u).getD 0 0 ≠ 48) := by
  induction u using Nat.strongRecOn with
  | _ u ih =>
    by_cases h : u < 10
    · rw [ibytes_small h]
      refine ⟨by simp, fun i hi => ?_, ?_, fun hu => ?_⟩
      · obtain rfl : i = 0 := by simpa using hi
        simp [List.getD]; omega
      · simp [val, List.getD]; omega
      · simp [List.getD]; omega
    · obtain ⟨a1, a2, a3, a4⟩ := ih (u / 10) (by omega)
      rw [ibytes_big h]
      refine ⟨by simp, fun i hi => ?_, ?_, fun _ => ?_⟩
      · by_cases hi' : i < (ibytes (u / 10)).length
        · rw [getD_snoc_left _ _ _ hi']; exact a2 i hi'
        · obtain rfl : i = (ibytes (u / 10)).length := by simp at hi; omega
          rw [getD_snoc_last]; omega
      · rw [List.length_append, List.length_singleton, val_snoc, a3]; omega
      · rw [getD_snoc_left _ _ _ (by omega)]; exact a4 (by omega)

theorem ibytes_lead (u : Nat) (h : 1 < (ibytes u).length) : (ibytes u).getD 0 0 ≠ 48 := by
  by_cases h0 : u < 10
  · rw [ibytes_small h0] at h; simp at h
  · exact (ibytes_facts u).2.2.2 (by omega)

/-- The bytes of the text of Gas{n, per}, per above 0. -/
def gbytes (n per : Int) : List Int := ibytes (gW n per).toNat ++ fbytes (gF n per)

theorem ucells_app (a b : List Int) : ucells (a ++ b) = ucells a ++ ucells b := by simp [ucells]
theorem byteCells_ib (u : Nat) : Lib.byteCells (Lib.decDigits u) = ucells (ibytes u) := by simp [Lib.byteCells, ucells, ibytes]

theorem gtxt_eq (n per : Int) (hp : ¬ per = 0) (hW : 0 ≤ gW n per) : gtxt n per = ucells (gbytes n per) := by
  unfold gtxt gbytes
  rw [if_neg hp, ucells_app, ← byteCells_ib]
  unfold Lib.itoa
  rw [if_neg (by omega)]

theorem digs_facts (F : Int) (hF : ¬ F = 0) (h0 : 0 ≤ F) (h9 : F ≤ 999) : 1 ≤ flen F ∧ flen F ≤ 3 ∧ (digsAt F (flen F)).length = flen F ∧ (∀ i, i < flen F → 48 ≤ (digsAt F (flen F)).getD i 0 ∧ (digsAt F (flen F)).getD i 0 ≤ 57)
    ∧ (digsAt F (flen F)).getD (flen F - 1) 0 ≠ 48 ∧ val (fun i => (digsAt F (flen F)).getD i 0) (flen F) * 10 ^ (3 - flen F) = F := by
  by_cases h1 : F % 100 = 0
  · have e : flen F = 1 := by unfold flen; rw [if_neg hF, if_pos h1]
    rw [e]
    refine ⟨by omega, by omega, rfl, fun i hi => ?_, ?_, ?_⟩
    · obtain rfl : i = 0 := by omega
      simp [digsAt, List.getD]; omega
    · simp [digsAt, List.getD]; omega
    · simp [digsAt, List.getD, val]; omega
  · by_cases h2 : F % 100 % 10 = 0
    · have e : flen F = 2 := by unfold flen; rw [if_neg hF, if_neg h1, if_pos h2]
      rw [e]
      refine ⟨by omega, by omega, rfl, fun i hi => ?_, ?_, ?_⟩
      · obtain rfl | rfl : i = 0 ∨ i = 1 := by omega
        all_goals simp [digsAt, List.getD]; omega
      · simp [digsAt, List.getD]; omega
      · simp [digsAt, List.getD, val]; omega
    · have e : flen F = 3 := by unfold flen; rw [if_neg hF, if_neg h1, if_neg h2]
      rw [e]
      refine ⟨by omega, by omega, rfl, fun i hi => ?_, ?_, ?_⟩
      · obtain rfl | rfl | rfl : i = 0 ∨ i = 1 ∨ i = 2 := by omega
        all_goals simp [digsAt, List.getD]; omega
      · simp [digsAt, List.getD]; omega
      · simp [digsAt, List.getD, val]; omega

/-- 'zzParseGas' of the text of Gas{n, per}: the two numbers. -/
theorem parse_gas (b off cap N : Nat) (n per : Int) (w : World) (hn : 0 ≤ n) (hn2 : n ≤ 9223372036854775807) (hp : 0 < per) (hN : N = (gbytes n per).length) (hNb : N ≤ 1000)
    (hc : ∀ i, i < (gbytes n per).length → w.cell? ⟨b, off + i, none⟩ = some (.int .u8 ((gbytes n per).getD i 0))) :
    Calls Tryd.prog 10 #[.slice (some ⟨b, off, none⟩) N cap] w fun e w' => e = .returned (.tuple #[.int .i64 (gW n per), .int .i64 (gF n per), .bool true]) ∧ w = w' := by
  obtain ⟨W0, W1⟩ := gW_bd n per hn hn2 hp
  obtain ⟨F0, F9⟩ := gF_bd n per hp
  obtain ⟨a1, a2, a3, -⟩ := ibytes_facts (gW n per).toNat
  have a4 := ibytes_lead (gW n per).toNat
  have hWn : ((gW n per).toNat : Int) = gW n per := by omega
  unfold gbytes at hc hN
  subst hN
  generalize hI : ibytes (gW n per).toNat = I at *
  have left : ∀ (J : List Int) (i : Nat), i < I.length → (I ++ J).getD i 0 = I.getD i 0 := fun J i hi => by simp [List.getD, List.getElem?_append_left hi]
  have right : ∀ (J : List Int) (i : Nat), (I ++ J).getD (I.length + i) 0 = J.getD i 0 := fun J i => by simp [List.getD, List.getElem?_append_right (Nat.le_add_right _ _)]
  by_cases hF : gF n per = 0
  · have e : fbytes (gF n per) = [] := by unfold fbytes; rw [if_pos hF]
    rw [e, List.append_nil] at hc hNb ⊢
    rw [hF]
    have := parse_whole b off I.length cap (fun i => I.getD i 0) w a1 (by omega) hc a2 a4 (by rw [a3]; omega)
    rw [a3, hWn] at this
    exact this
  · obtain ⟨d1, d2, d3, d4, d5, d6⟩ := digs_facts (gF n per) hF F0 F9
    have e : fbytes (gF n per) = 46 :: digsAt (gF n per) (flen (gF n per)) := by unfold fbytes; rw [if_neg hF]
    rw [e] at hc hNb ⊢
    generalize hD : digsAt (gF n per) (flen (gF n per)) = D at *
    generalize flen (gF n per) = m at *
    have hlen : (I ++ 46 :: D).length = I.length + 1 + m := by simp; omega
    rw [hlen] at hc hNb ⊢
    have r1 : ∀ i, (I ++ 46 :: D).getD (I.length + 1 + i) 0 = D.getD i 0 := fun i => by rw [Nat.add_assoc, right, Nat.add_comm 1 i]; simp [List.getD]
    have r0 : (I ++ 46 :: D).getD I.length 0 = 46 := by simp [List.getD]
    have v1 : val (fun i => (I ++ 46 :: D).getD i 0) I.length = val (fun i => I.getD i 0) I.length := val_congr _ _ _ (fun i hi => left _ i hi)
    have v2 : val (fun i => (I ++ 46 :: D).getD (I.length + 1 + i) 0) m = val (fun i => D.getD i 0) m := val_congr _ _ _ (fun i hi => r1 i)
    have := parse_frac b off I.length m cap (fun i => (I ++ 46 :: D).getD i 0) w a1 d1 d2 (by omega) hc (fun i hi => by rw [left _ i hi]; exact a2 i hi) (fun h => by rw [left _ 0 (by omega)]; exact a4 h) (by rw [v1, a3]; omega)
      r0 (fun i hi => by rw [r1]; exact d4 i hi) (by rw [show I.length + m = I.length + 1 + (m - 1) by omega, r1]; exact d5)
    rw [v1, a3, hWn, v2, d6] at this
    exact this
end Go.Proofs.Qxb6608916aDoor
