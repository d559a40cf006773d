import Derived.Test.Qxb6613636aTrunc
import Derived.Deep.Cut
import Derived.Deep.CutRange
import Derived.Deep.DeepCutAuto
namespace Go.Proofs.Qxb6613636a
open Go.RowKit
set_option linter.unusedVariables false

/-- A slice of bytes that came in: nil, or an address whose cells hold l. -/
def InRow (w : World) (a : Option Addr) (len cap : Nat) (l : List UInt8) : Prop :=
  (a = none ∧ len = 0 ∧ cap = 0 ∧ l = []) ∨ ∃ x, a = some x ∧ l.length = len ∧ ∀ j (hj : j < l.length), w.cell? (x.add j) = some (.int .u8 (l[j].toNat : Int))

theorem InRow.below {w w' : World} {a : Option Addr} {len cap : Nat} {l : List UInt8} (h : InRow w a len cap l) (hb : Below w.heap.size w w') : InRow w' a len cap l := by
  rcases h with h | ⟨x, rfl, hl, hc⟩
  · exact Or.inl h
  · refine Or.inr ⟨x, rfl, hl, fun j hj => ?_⟩
    have h1 := hc j hj
    rw [hb.cell (p := x.add j) (World.block_lt_of_cell? w _ h1)]; exact h1

theorem Lies.below {w w' : World} {a : Option Addr} {n c : Nat} {l : List UInt8} (h : Lies w a n c l) (hb : Below w.heap.size w w') : Lies w' a n c l := by
  obtain ⟨h1, h2, h3 | ⟨g, off, rfl, hc⟩⟩ := h
  · exact ⟨h1, h2, Or.inl h3⟩
  · refine ⟨h1, h2, Or.inr ⟨g, off, rfl, fun j hj => ?_⟩⟩
    have h4 := hc j hj
    rw [hb.cell (p := ⟨g, off + j, none⟩) (World.block_lt_of_cell? w _ h4)]; exact h4

theorem jbytes_ok (a b : Option Addr) (n1 c1 n2 c2 : Nat) (w : World) (h : n1 + n2 ≤ 1048576) :
    Calls Try.prog 5 #[.slice a n1 c1, .slice b n2 c2] w fun e w' => e = .returned (.bool true) ∧ w = w' := by
  go_enter Try.func5, Try.ntmps5
  go_wp2
  go_ret
  exact ⟨rfl, rfl⟩
theorem jbytes_no (a b : Option Addr) (n1 c1 n2 c2 : Nat) (w : World) (h : 1048576 < n1 + n2) (h1 : n1 ≤ 9223372036854775807) (h2 : n2 ≤ 9223372036854775807) :
    Calls Try.prog 5 #[.slice a n1 c1, .slice b n2 c2] w fun e w' => e = .returned (.bool false) ∧ w = w' := by
  by_cases c : 1048576 < n1
  · go_enter Try.func5, Try.ntmps5
    go_wp2
    go_ret
    exact ⟨rfl, rfl⟩
  by_cases d : 1048576 < n2
  · go_enter Try.func5, Try.ntmps5
    go_wp2
    go_ret
    exact ⟨rfl, rfl⟩
  · go_enter Try.func5, Try.ntmps5
    go_wp2
    go_ret
    exact ⟨rfl, rfl⟩

/-- A row of the call's own, byte by byte; each may be written. -/
def Urow (w : World) (g N : Nat) (f : Nat → UInt8) : Prop := ∀ j, j < N → w.cell? ⟨g, j, none⟩ = some (.int .u8 ((f j).toNat : Int)) ∧ w.frozen? ⟨g, j, none⟩ = false

theorem Urow.set {w : World} {g N : Nat} {f : Nat → UInt8} (h : Urow w g N f) (k : Nat) (b : UInt8) (hk : k < N) : Urow (w.setCell ⟨g, k, none⟩ (.int .u8 (b.toNat : Int))) g N (fun j => if j = k then b else f j) := by
  intro j hj
  refine ⟨?_, by rw [World.frozen?_setCell]; exact (h j hj).2⟩
  by_cases e : j = k
  · subst e
    rw [World.cell?_setCell_same _ _ _ (h j hj).1]; simp
  · rw [World.cell?_setCell_other _ _ _ _ (by intro h'; apply e; simpa using (congrArg Addr.off h').symm), (h j hj).1]; simp [e]

theorem Urow.lies {w : World} {g N : Nat} {f : Nat → UInt8} {l : List UInt8} (h : Urow w g N f) (hl : l.length = N) (hf : ∀ j (hj : j < l.length), f j = l[j]) : Lies w (some ⟨g, 0, none⟩) N N l :=
  ⟨hl, Nat.le_refl _, Or.inr ⟨g, 0, rfl, fun j hj => by rw [Nat.zero_add, (h j (by omega)).1, hf j hj]⟩⟩

theorem urow_made {w : World} {base g N : Nat} (h : w.ownsRow base 5 1 (.slice (some ⟨g, 0, none⟩) N N) N (madeCells (Value.int .u8 0).cells (N * 1)).toList) : Urow w g N (fun _ => 0) := by
  intro j hj
  refine ⟨?_, h.frozenAt j⟩
  have e : (madeCells (Value.int .u8 0).cells (N * 1)).toList = List.replicate (N * 1) (Value.int .u8 0) := toList_madeCells_one _ _
  have := h.cells (g := g) rfl j (.int .u8 0) (by rw [e]; simp [hj])
  rw [Addr.add_lit, Nat.zero_add] at this
  exact this

/-- The joined text, truncated: where s is long, s's own; else s followed by the first bytes of t's. -/
theorem join_long (l0 l1 : List UInt8) (h : 64 ≤ l0.length) : (⟨((l0 ++ l1).take 64).toArray⟩ : ByteArray) = ⟨(l0.take 64).toArray⟩ := by
  rw [List.take_append_of_le_length h]
theorem ba_append (a b : ByteArray) : (a ++ b).data.toList = a.data.toList ++ b.data.toList := by simp
theorem join_short (l0 l1 : List UInt8) (k : Nat) (h : l0.length < 64) (hk : k = min (min 64 l1.length) (64 - l0.length)) :
    (⟨((l0 ++ l1).take 64).toArray⟩ : ByteArray) = (⟨(l0.take 64).toArray⟩ : ByteArray) ++ (⟨(l1.take 64).toArray⟩ : ByteArray).extract 0 k := by
  apply ba_ext
  rw [ba_append, Lib.extract_data]
  show (l0 ++ l1).take 64 = l0.take 64 ++ ((l1.take 64).drop 0).take (k - 0)
  rw [List.take_append, List.drop_zero, List.take_take, List.take_of_length_le (by omega : l0.length ≤ 64)]
  congr 1
  by_cases h2 : l1.length ≤ 64 - l0.length
  · rw [List.take_of_length_le h2, List.take_of_length_le (by omega)]
  · congr 1
    omega

set_option maxHeartbeats 4000000 in
set_option maxRecDepth 100000 in
theorem join_main (a0 a1 : Option Addr) (n0 c0 n1 c1 : Nat) (l0 l1 : List UInt8) (w : World) (hs : n0 + n1 ≤ 1048576) (hl0 : n0 = l0.length) (hl1 : n1 = l1.length) (h0 : Hid (InRow w a0 n0 c0 l0)) (h1 : Hid (InRow w a1 n1 c1 l1)) :
    Calls Try.prog 3 #[.slice a0 n0 c0, .slice a1 n1 c1] w fun e w' => e = .returned (.bool true) ∧ Below w.heap.size w w' := by
  obtain ⟨i0, hi, hz0, hz1, hz2⟩ := info_parts infoByte
  have HL0 := Lib.hid hl0
  have HL1 := Lib.hid hl1
  clear hl0 hl1
  have d1 : decide ((1048576 : Int) < (n0 : Int)) = false := decide_eq_false (by omega)
  have d2 : decide ((1048576 : Int) - (n0 : Int) < (n1 : Int)) = false := decide_eq_false (by omega)
  have hnil := fun w (a : Option Addr) n c => run_neq_slice_nil_any (P := Try.prog) w 22 5 a n c 0 0 Try.underlying22
  go_enter Try.func3, Try.ntmps3
  go_wp2_with fail
  refine (jbytes_ok _ _ _ _ _ _ _ hs).mono ?_
  rintro e w' ⟨rfl, rfl⟩
  go_upto_if 30 with fail
  go_cut [0] (fun s0 wc => ∃ sA cA, s0 = .slice sA n0 cA ∧ Lies wc sA n0 cA l0 ∧ Below w.heap.size w wc)
  case first =>
    rcases h0.out with ⟨rfl, rfl, rfl, rfl⟩ | ⟨x, rfl, -, hc⟩
    · go_wp2
      go_meet
      case rel => exact ⟨none, 0, rfl, ⟨rfl, Nat.le_refl _, Or.inl ⟨rfl, rfl, rfl⟩⟩, Below.refl _ _⟩
    · have HC := Lib.hid hc
      clear hc
      go_wp2_with (at_make; refine wpList_make_full _ rfl _ _ 22 rfl w.heap.size 5 i0 (.int .u8 0) 1 Try.underlying22 hi hz0 hz1 _ _ _ _ n0 rfl rfl rfl rfl (by rw [hz2]; omega) (by unfold maxLen; omega) (Nat.le_refl _) ?_; intro w1 hown1 hgrow1; refine Hid.out ?_)
      refine Lib.hid ?_
      obtain ⟨g, cap', cur, hv, -, hh, -, -, hsz, -⟩ : ∃ g cap' cur, Value.slice (some ⟨w.heap.size, 0, none⟩) n0 n0 = .slice (some ⟨g, 0, none⟩) n0 cap' ∧ w.heap.size ≤ g ∧ w1.heap[g]? = some (.cells cur 5 (0, 0)) ∧ n0 ≤ cap' ∧ cap' ≤ maxLen ∧ cur.size = cap' * 1 ∧ cur.toList.take (n0 * 1) = (madeCells (Value.int .u8 0).cells (n0 * 1)).toList := by
        rcases hown1.2 with ⟨h, _⟩ | h
        · cases h
        · exact h
      simp only [Value.slice.injEq, Option.some.injEq, Addr.mk.injEq] at hv
      obtain ⟨⟨rfl, -⟩, -, rfl⟩ := hv
      obtain ⟨L, rfl⟩ : ∃ L : List Value, cur = L.toArray := ⟨cur.toList, by simp⟩
      have hL : L.length = n0 := by simpa using hsz
      have hsrc : ∀ j v, (bcells l0)[j]? = some v → w1.cell? (x.add j) = some v := bcells_src (fun j hj => hgrow1.cell (HC.out j hj) (by simp))
      have hb1 : Below w.heap.size w w1 := (Below.refl _ _).grown hgrow1 (Nat.le_refl _) (by simp)
      have hcl : (bcells l0).length = n0 := by rw [bcells_len]; exact HL0.out.symm
      have HSP : Hid (splice L 0 (bcells l0) = bcells l0) := by show splice L 0 (bcells l0) = _; simp [splice]; omega
      have hone := bcells_one l0
      obtain ⟨cs, Hcs⟩ : ∃ cs, Hid (cs = bcells l0) := ⟨_, rfl⟩
      rw [← Hcs.out] at hsrc hcl hone HSP
      clear hown1
      go_wp2_with (refine wpList_copy_splice rfl (.tmp 34) (.tmp 35) 22 22 rfl 5 Try.underlying22 (by rw [hi]; simp [hz1]) _ _ n0 n0 n0 c0 rfl rfl w.heap.size 0 L 5 hh cs (by rw [hcl]; simp) (fun _ => ⟨rfl, x, rfl, hsrc⟩) (by omega) hone w.heap.size w hb1 (Nat.le_refl _) ?_; intro w2 HG hb2; refine Hid.out ?_)
      refine Lib.hid ?_
      have hcell : ∀ j (hj : j < l0.length), w2.cell? ⟨w.heap.size, j, none⟩ = some (.int .u8 (l0[j].toNat : Int)) := cells_of_row (t := 5) (by rw [HG.out, HSP.out, Hcs.out])
      have hlies : Lies w2 (some ⟨w.heap.size, 0, none⟩) n0 n0 l0 := ⟨HL0.out.symm, Nat.le_refl _, Or.inr ⟨w.heap.size, 0, rfl, fun j hj => by rw [Nat.zero_add]; exact hcell j hj⟩⟩
      have hbw : Below w.heap.size w w2 := hb2
      clear hsrc hone hcl HSP Hcs HG hh hL hsz hb1 hgrow1 hcell hb2
      go_wp2
      go_meet
      case rel => exact ⟨_, n0, rfl, hlies, hbw⟩
  case rest =>
    obtain ⟨sA, cA, rfl, hLs, hB1⟩ := hcut
    go_upto_if 39 with fail
    go_cut [1] (fun s1 wd => ∃ tA dA, s1 = .slice tA n1 dA ∧ Lies wd tA n1 dA l1 ∧ Lies wd sA n0 cA l0 ∧ Below w.heap.size w wd)
    case first =>
      rcases h1.out.below hB1 with ⟨rfl, rfl, rfl, rfl⟩ | ⟨x, rfl, -, hc⟩
      · go_wp2
        go_meet
        case rel => exact ⟨none, 0, rfl, ⟨rfl, Nat.le_refl _, Or.inl ⟨rfl, rfl, rfl⟩⟩, hLs, hB1⟩
      · have HC := Lib.hid hc
        clear hc
        go_wp2_with (at_make; refine wpList_make_full _ rfl _ _ 22 rfl wc.heap.size 5 i0 (.int .u8 0) 1 Try.underlying22 hi hz0 hz1 _ _ _ _ n1 rfl rfl rfl rfl (by rw [hz2]; omega) (by unfold maxLen; omega) (Nat.le_refl _) ?_; intro w1 hown1 hgrow1; refine Hid.out ?_)
        refine Lib.hid ?_
        obtain ⟨g, cap', cur, hv, -, hh, -, -, hsz, -⟩ : ∃ g cap' cur, Value.slice (some ⟨wc.heap.size, 0, none⟩) n1 n1 = .slice (some ⟨g, 0, none⟩) n1 cap' ∧ wc.heap.size ≤ g ∧ w1.heap[g]? = some (.cells cur 5 (0, 0)) ∧ n1 ≤ cap' ∧ cap' ≤ maxLen ∧ cur.size = cap' * 1 ∧ cur.toList.take (n1 * 1) = (madeCells (Value.int .u8 0).cells (n1 * 1)).toList := by
          rcases hown1.2 with ⟨h, _⟩ | h
          · cases h
          · exact h
        simp only [Value.slice.injEq, Option.some.injEq, Addr.mk.injEq] at hv
        obtain ⟨⟨rfl, -⟩, -, rfl⟩ := hv
        obtain ⟨L, rfl⟩ : ∃ L : List Value, cur = L.toArray := ⟨cur.toList, by simp⟩
        have hL : L.length = n1 := by simpa using hsz
        have hsrc : ∀ j v, (bcells l1)[j]? = some v → w1.cell? (x.add j) = some v := bcells_src (fun j hj => hgrow1.cell (HC.out j hj) (by simp))
        have hb1 : Below wc.heap.size wc w1 := (Below.refl _ _).grown hgrow1 (Nat.le_refl _) (by simp)
        have hcl : (bcells l1).length = n1 := by rw [bcells_len]; exact HL1.out.symm
        have HSP : Hid (splice L 0 (bcells l1) = bcells l1) := by show splice L 0 (bcells l1) = _; simp [splice]; omega
        have hone := bcells_one l1
        obtain ⟨cs, Hcs⟩ : ∃ cs, Hid (cs = bcells l1) := ⟨_, rfl⟩
        rw [← Hcs.out] at hsrc hcl hone HSP
        clear hown1
        go_wp2_with (refine wpList_copy_splice rfl (.tmp 43) (.tmp 44) 22 22 rfl 5 Try.underlying22 (by rw [hi]; simp [hz1]) _ _ n1 n1 n1 c1 rfl rfl wc.heap.size 0 L 5 hh cs (by rw [hcl]; simp) (fun _ => ⟨rfl, x, rfl, hsrc⟩) (by omega) hone wc.heap.size wc hb1 (Nat.le_refl _) ?_; intro w2 HG hb2; refine Hid.out ?_)
        refine Lib.hid ?_
        have hcell : ∀ j (hj : j < l1.length), w2.cell? ⟨wc.heap.size, j, none⟩ = some (.int .u8 (l1[j].toNat : Int)) := cells_of_row (t := 5) (by rw [HG.out, HSP.out, Hcs.out])
        have hlies : Lies w2 (some ⟨wc.heap.size, 0, none⟩) n1 n1 l1 := ⟨HL1.out.symm, Nat.le_refl _, Or.inr ⟨wc.heap.size, 0, rfl, fun j hj => by rw [Nat.zero_add]; exact hcell j hj⟩⟩
        have hLs2 := hLs.below hb2
        have hbw : Below w.heap.size w w2 := hB1.trans (hb2.mono hB1.size)
        clear hsrc hone hcl HSP Hcs HG hh hL hsz hb1 hgrow1 hcell hb2
        go_wp2
        go_meet
        case rel => exact ⟨_, n1, rfl, hlies, hLs2, hbw⟩
    case rest =>
      obtain ⟨tA, dA, rfl, hLt, hLs', hB2⟩ := hcut
      clear hLs hB1
      rename World => w5
      obtain ⟨N, HN⟩ : ∃ N : Nat, Hid (N = n0 + n1) := ⟨_, rfl⟩
      have hNle : N ≤ 1048576 := by have := HN.out; omega
      go_wp2_with (at_make; refine wpList_make_full _ rfl _ _ 22 rfl w5.heap.size 5 i0 (.int .u8 0) 1 Try.underlying22 hi hz0 hz1 _ _ _ _ N rfl rfl (by have := HN.out; omega) (by have := HN.out; omega) (by rw [hz2]; omega) (by unfold maxLen; omega) (Nat.le_refl _) ?_; intro w6 hown hgrow; refine Hid.out ?_)
      refine Lib.hid ?_
      have hB3 : Below w5.heap.size w5 w6 := (Below.refl _ _).grown hgrow (Nat.le_refl _) (by simp)
      have hu0 := Lib.hid (urow_made hown)
      have hgs : w5.heap.size < w6.heap.size := (hown.lt w5.heap.size rfl).2
      have hn0N : n0 ≤ N := by have := HN.out; omega
      have HLS := Lib.hid hLs'
      have HLT := Lib.hid hLt
      clear hown hgrow hLs' hLt
      go_wp2
      go_loopw [8] (fun i wr => ∃ (k : Nat) (f : Nat → UInt8), k ≤ n0 ∧ i = .int .i64 k ∧ Hid (Urow wr w5.heap.size N f) ∧ Hid (∀ j (hj : j < l0.length), j < k → f j = l0[j]) ∧ Below w5.heap.size w5 wr) (fun i _ => n0 - (intOf i).toNat)
      case atStart => exact ⟨0, fun _ => 0, Nat.zero_le _, rfl, hu0, fun _ _ h => absurd h (by omega), hB3⟩
      case round =>
        obtain ⟨k, f, hk, rfl, HU, HF, hbr⟩ := hrel
        by_cases hlt : k < n0
        · have hkl : k < l0.length := by have := HL0.out; omega
          obtain ⟨g, off, rfl, hcs⟩ : ∃ g off, sA = some ⟨g, off, none⟩ ∧ ∀ j (hj : j < l0.length), wr.cell? ⟨g, off + j, none⟩ = some (.int .u8 (l0[j].toNat : Int)) := by
            obtain ⟨-, -, ⟨-, h, -⟩ | h⟩ := HLS.out.below hbr
            · omega
            · exact h
          have c1 := hcs k hkl
          obtain ⟨c2, c3⟩ := HU.out k (by omega)
          have hkN : k < N := by omega
          generalize hb : l0[k] = b at c1
          have Hb := Lib.hid hb
          clear hcs hb
          go_wp2
          go_roundw
          case rel =>
            refine ⟨k + 1, (fun j => if j = k then b else f j), by omega, by go_num, HU.out.set k b hkN, ?_, hbr.setCell (Nat.le_refl _) _⟩
            intro j hj hjk
            by_cases e : j = k
            · subst e; simp; exact Hb.out.symm
            · simp only [e, if_false]; exact HF.out j hj (by omega)
          case measure => simp [intOf]; omega
        · obtain rfl : n0 = k := by omega
          clear hu0 hB3
          go_wp2
          go_loopw [9] (fun i wr => ∃ (k : Nat) (f : Nat → UInt8), k ≤ n1 ∧ i = .int .i64 k ∧ Hid (Urow wr w5.heap.size N f) ∧ Hid (∀ j (hj : j < (l0 ++ l1).length), j < n0 + k → f j = (l0 ++ l1)[j]) ∧ Below w5.heap.size w5 wr) (fun i _ => n1 - (intOf i).toNat)
          case atStart =>
            refine ⟨0, f, Nat.zero_le _, rfl, HU, ?_, hbr⟩
            intro j hj hjk
            have hj' : j < l0.length := by have := HL0.out; omega
            rw [List.getElem_append_left hj']
            exact HF.out j hj' (by omega)
          case round =>
            clear HU HF hbr
            obtain ⟨k, f, hk, rfl, HU, HF, hbr⟩ := hrel
            by_cases hlt : k < n1
            · have hkl : k < l1.length := by have := HL1.out; omega
              obtain ⟨g, off, rfl, hcs⟩ : ∃ g off, tA = some ⟨g, off, none⟩ ∧ ∀ j (hj : j < l1.length), wr.cell? ⟨g, off + j, none⟩ = some (.int .u8 (l1[j].toNat : Int)) := by
                obtain ⟨-, -, ⟨-, h, -⟩ | h⟩ := HLT.out.below hbr
                · omega
                · exact h
              have c1 := hcs k hkl
              have hkN : n0 + k < N := by have := HN.out; omega
              obtain ⟨c2, c3⟩ := HU.out (n0 + k) hkN
              generalize hb : l1[k] = b at c1
              have Hb := Lib.hid hb
              clear hcs hb
              go_wp2
              go_roundw
              case rel =>
                refine ⟨k + 1, (fun j => if j = n0 + k then b else f j), by omega, by go_num, HU.out.set (n0 + k) b hkN, ?_, hbr.setCell (Nat.le_refl _) _⟩
                intro j hj hjk
                by_cases e : j = n0 + k
                · subst e
                  simp only [if_true]
                  rw [List.getElem_append_right (by have := HL0.out; omega)]
                  have e2 : n0 + k - l0.length = k := by have := HL0.out; omega
                  simp only [e2]
                  exact Hb.out.symm
                · simp only [e, if_false]; exact HF.out j hj (by omega)
              case measure => simp [intOf]; omega
            · obtain rfl : n1 = k := by omega
              have hLu : Lies wr (some ⟨w5.heap.size, 0, none⟩) N N (l0 ++ l1) := HU.out.lies (by rw [List.length_append, HN.out, HL0.out, HL1.out]) (fun j hj => HF.out j hj (by rw [List.length_append] at hj; have := HL0.out; have := HL1.out; omega))
              have hLs2 := HLS.out.below hbr
              have hLt2 := HLT.out.below hbr
              have hBw : Below w.heap.size w wr := hB2.trans (hbr.mono hB2.size)
              obtain ⟨B, HB⟩ : ∃ B : ByteArray, Hid ((⟨(l0.take 64).toArray⟩ : ByteArray) = B) := ⟨_, rfl⟩
              obtain ⟨C, HC⟩ : ∃ C : ByteArray, Hid ((⟨(l1.take 64).toArray⟩ : ByteArray) = C) := ⟨_, rfl⟩
              have hBs : B.size = min 64 n0 := by rw [← HB.out, HL0.out]; simp [ByteArray.size]
              have hCs : C.size = min 64 n1 := by rw [← HC.out, HL1.out]; simp [ByteArray.size]
              have hBg : ∀ k (h : k < B.size), ∃ g off, sA = some ⟨g, off, none⟩ ∧ wr.cell? ⟨g, off + k, none⟩ = some (.int .u8 (B[k].toNat : Int)) := by
                intro k h
                have hk : k < l0.length := by have := HL0.out; omega
                obtain ⟨-, -, ⟨-, h2, -⟩ | ⟨g, off, h3, h4⟩⟩ := hLs2
                · omega
                · refine ⟨g, off, h3, ?_⟩
                  rw [h4 k hk]
                  have e : B[k] = l0[k] := by
                    have := HB.out
                    subst this
                    simp [ByteArray.getElem_eq_getElem_data]
                  rw [e]
              have HBg := Lib.hid hBg
              have HBs := Lib.hid hBs
              have HCs := Lib.hid hCs
              have hB1 : B.size ≤ n0 := by omega
              have hB64 : B.size ≤ 64 := by omega
              have hBm : ((n0 : Int) < 64 ∧ (B.size : Int) = n0) ∨ (¬ (n0 : Int) < 64 ∧ (B.size : Int) = 64) := by omega
              have HBm := Lib.hid hBm
              have HLU := Lib.hid hLu
              have HLS2 := Lib.hid hLs2
              have HLT2 := Lib.hid hLt2
              clear hBg hBs hCs hBm hLu hLs2 hLt2 HU HF
              obtain ⟨w8, rfl⟩ : ∃ w8 : World, w8 = wr := ⟨_, rfl⟩
              by_cases hlong : 64 ≤ n0
              · have hlong' : (64 : Int) ≤ (n0 : Int) := by omega
                have HJ := Lib.hid ((join_long l0 l1 (by have := HL0.out; omega)).trans HB.out)
                go_wp2_with fail
                refine (trunc_str B _ _ _ _ _ HLU.out hNle HJ.out).mono ?_
                rintro e w' ⟨rfl, rfl⟩
                go_wp2_with fail
                refine (trunc_str B _ _ _ _ _ HLS2.out (by omega) HB.out).mono ?_
                rintro e w' ⟨rfl, rfl⟩
                go_wp2_with fail
                refine (trunc_str C _ _ _ _ _ HLT2.out (by omega) HC.out).mono ?_
                rintro e w' ⟨rfl, rfl⟩
                go_wp2_with fail
                refine (min_is _ _ (B.size : Int) _ (by have := HBm.out; omega)).mono ?_
                rintro e w' ⟨rfl, rfl⟩
                go_wp2
                go_loopw [14] (fun i wr' => ∃ (k nq : Nat), k ≤ B.size ∧ i = .int .i64 k ∧ wr' = w8.drewN nq) (fun i _ => B.size - (intOf i).toNat)
                case atStart => exact ⟨0, 0, Nat.zero_le _, rfl, rfl⟩
                case round =>
                  obtain ⟨k, nq, hk, rfl, rfl⟩ := hrel
                  by_cases hlt : k < B.size
                  · obtain ⟨g, off, rfl, c1⟩ := HBg.out k hlt
                    have hkn : k < n0 := by omega
                    go_wp2
                    go_region
                    go_wp2
                    go_roundw
                    case rel => exact ⟨k + 1, nq + 1, by omega, by go_num, rfl⟩
                    case measure => simp [intOf]; omega
                  · obtain rfl : k = B.size := by omega
                    go_wp2
                    go_ret
                    exact ⟨rfl, ⟨hBw.os, hBw.tape, hBw.output, hBw.size, hBw.block⟩⟩
              · have hshort : (n0 : Int) < 64 := by omega
                obtain ⟨kk, HK⟩ : ∃ kk, Hid (kk = min (min 64 l1.length) (64 - l0.length)) := ⟨_, rfl⟩
                have hkk : kk ≤ 64 := by have := HK.out; omega
                have hksum : ¬ 9223372036854775807 < B.size + kk := by omega
                have hkC : kk ≤ C.size := by have := HK.out; have := HCs.out; have := HL1.out; omega
                have HJ : Hid ((⟨((l0 ++ l1).take 64).toArray⟩ : ByteArray) = B ++ C.extract 0 kk) := by
                  show _ = _
                  rw [← HB.out, ← HC.out]; exact join_short l0 l1 kk (by have := HL0.out; omega) HK.out
                go_wp2_with fail
                refine (trunc_str (B ++ C.extract 0 kk) _ _ _ _ _ HLU.out hNle HJ.out).mono ?_
                rintro e w' ⟨rfl, rfl⟩
                go_wp2_with fail
                refine (trunc_str B _ _ _ _ _ HLS2.out (by omega) HB.out).mono ?_
                rintro e w' ⟨rfl, rfl⟩
                go_wp2_with fail
                refine (trunc_str C _ _ _ _ _ HLT2.out (by omega) HC.out).mono ?_
                rintro e w' ⟨rfl, rfl⟩
                go_wp2_with fail
                refine (min_is _ _ (B.size : Int) _ (by have := HBm.out; omega)).mono ?_
                rintro e w' ⟨rfl, rfl⟩
                go_wp2
                go_loopw [14] (fun i wr' => ∃ (k nq : Nat), k ≤ B.size ∧ i = .int .i64 k ∧ wr' = w8.drewN nq) (fun i _ => B.size - (intOf i).toNat)
                case atStart => exact ⟨0, 0, Nat.zero_le _, rfl, rfl⟩
                case round =>
                  obtain ⟨k, nq, hk, rfl, rfl⟩ := hrel
                  by_cases hlt : k < B.size
                  · obtain ⟨g, off, rfl, c1⟩ := HBg.out k hlt
                    have hkn : k < n0 := by omega
                    go_wp2
                    go_region
                    go_wp2
                    go_roundw
                    case rel => exact ⟨k + 1, nq + 1, by omega, by go_num, rfl⟩
                    case measure => simp [intOf]; omega
                  · obtain rfl : k = B.size := by omega
                    go_wp2_with fail
                    refine (min_is _ _ (kk : Int) _ (by have := HK.out; have := HCs.out; have := HL1.out; have := HL0.out; omega)).mono ?_
                    rintro e w' ⟨rfl, rfl⟩
                    go_wp2
                    go_ret
                    exact ⟨rfl, ⟨hBw.os, hBw.tape, hBw.output, hBw.size, hBw.block⟩⟩
end Go.Proofs.Qxb6613636a
