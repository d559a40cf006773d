import Derived.Test.Qxb6613577aTopA
import Derived.Test.Qxb6613577aLast
import Derived.Lib.Builder
namespace Go.Proofs.Qxb6613577a
open Go.RowKit
set_option linter.unusedVariables false
set_option linter.unusedSimpArgs false

attribute [local go_sem ↓] Go.wp_at_zero Go.wp_at_succ

theorem lastIx_some {ds : List DS} {n k : Nat} {d : DS} (hd : ds[k]? = some d) (hk : k < n) : ∃ j, lastIx ds n d.kind d.pc = some j := by
  induction n with
  | zero => omega
  | succ n ih =>
    by_cases e : k = n
    · subst e; exact ⟨k, lastIx_hit hd ⟨rfl, rfl⟩⟩
    · obtain ⟨j, hj⟩ := ih (by omega)
      unfold lastIx
      split
      · split
        · exact ⟨_, rfl⟩
        · exact ⟨j, hj⟩
      · exact ⟨j, hj⟩

theorem nestV_ptr (ds : List DS) (n : Nat) (dst : Nat → Nat) (d : DS) : ∃ pv, nestV ds n dst d = .pointer pv := by
  unfold nestV
  split
  · exact wantV_ptr _ _ _ _
  · exact ⟨_, rfl⟩

theorem neq35 (pv : Option Addr) (u : World) : (binOp .neq 35 (.pointer pv) (.pointer pv)).run Try.prog u = .ok (.bool false) u := by
  obtain ⟨j40, hj40⟩ := Option.isSome_iff_exists.1 some40
  cases pv with
  | some a => exact Lib.run_neq_ptr_same u a Try.underlying35 hj40
  | none =>
    have h : ∀ d : Nat, (Op.equalIn (d + 1) 35 (.pointer none) (.pointer none)).run Try.prog u = .ok true u := fun d => by simp [Op.equalIn, run_underlying Try.underlying35, sizeOf, typeInfo, hj40]
    simp only [binOp]
    simp [Op.equal, Op.maxDepth, h 9999]
theorem eql35 (pv : Option Addr) (u : World) : (binOp .eql 35 (.pointer pv) (.pointer pv)).run Try.prog u = .ok (.bool true) u := by
  obtain ⟨j40, hj40⟩ := Option.isSome_iff_exists.1 some40
  cases pv with
  | some a => exact run_eql_ptr_same u a Try.underlying35 hj40
  | none =>
    have h : ∀ d : Nat, (Op.equalIn (d + 1) 35 (.pointer none) (.pointer none)).run Try.prog u = .ok true u := fun d => by simp [Op.equalIn, run_underlying Try.underlying35, sizeOf, typeInfo, hj40]
    simp only [binOp]
    simp [Op.equal, Op.maxDepth, h 9999]

set_option maxHeartbeats 4000000 in
set_option maxRecDepth 100000 in
theorem top3_any (nl pk pp : Int) (a : Option Addr) (n cap : Nat) (ds : List DS) (w : World) (hm : n ≤ 9223372036854775807) (hs : SpecAt w a n ds) (k1 : 0 ≤ pk) (k2 : pk ≤ 255) (k3 : 0 ≤ pp) (k4 : pp ≤ 4294967295) :
    Calls Try.prog 3 #[.int .i64 nl, .slice a n cap, .int .u8 pk, .int .u32 pp] w fun e w' => TopPost w e w' := by
  have HS := Lib.hid hs
  have hnd : n = ds.length := hs.1
  have HN := Lib.hid hnd
  clear hs hnd
  go_enter Try.func3, Try.ntmps3
  go_wp2_with fail
  refine (bytes5 nl pk pp a n cap ds w hm HS.out).mono ?_
  rintro e w' ⟨rfl | ⟨rfl, -⟩, rfl⟩
  · go_wp2
    go_ret
    exact ⟨rfl, Below.refl _ _⟩
  by_cases h4 : 4096 < n
  · go_wp2
    go_ret
    exact ⟨rfl, Below.refl _ _⟩
  have d4 : decide ((4096 : Int) < (n : Int)) = false := decide_eq_false (by omega)
  go_wp2_with fail
  refine (tooBig_any a n cap ds w hm HS.out).mono ?_
  rintro e w' ⟨rfl | ⟨rfl, hn4, hsum, hrn⟩, rfl⟩
  · go_wp2
    go_ret
    exact ⟨rfl, Below.refl _ _⟩
  have HRN := Lib.hid hrn
  have HSM := Lib.hid hsum
  clear hrn hsum
  by_cases hn0 : nl < 0
  · go_wp2
    go_ret
    exact ⟨rfl, Below.refl _ _⟩
  by_cases hn6 : 65536 < nl
  · go_wp2
    go_ret
    exact ⟨rfl, Below.refl _ _⟩
  obtain ⟨m, rfl⟩ : ∃ m : Nat, nl = m := ⟨nl.toNat, by omega⟩
  have hm6 : m ≤ 65536 := by omega
  have dm1 : decide ((m : Int) < 0) = false := decide_eq_false (by omega)
  have dm2 : decide ((65536 : Int) < (m : Int)) = false := decide_eq_false (by omega)
  go_wp2_with fail
  refine (inRange_any m a n cap ds w hn4 hm6 HS.out HRN.out).mono ?_
  rintro e w' ⟨rfl | ⟨rfl, hin⟩, rfl⟩
  · go_wp2
    go_ret
    exact ⟨rfl, Below.refl _ _⟩
  have HIN := Lib.hid hin
  clear hin
  go_wp2_with fail
  refine (config_any m a n cap ds w hn4 hm6 HS.out HRN.out HIN.out).mono ?_
  rintro e w1 ⟨c, pdf, rfl, hc1, hb1⟩
  have HC1 := Lib.hid hc1
  clear hc1
  go_wp2_with fail
  refine (own_any c m ds pdf w1 (by rw [← HN.out]; exact hn4) HC1.out).mono ?_
  rintro e w2 ⟨mb, rfl, hmine, hb2⟩
  have HC2 := Lib.hid (HC1.out.same (below_cells hb2 (Nat.le_refl _)))
  have HMI := Lib.hid hmine
  rw [← HN.out] at HMI
  clear hmine
  rw [← HN.out]
  go_wp2_with fail
  refine (new_any c m n ds pdf w2 HN.out HC2.out hm6 hn4 HSM.out (HS.out.2.1) HRN.out).mono ?_
  rintro e w3 ⟨t, dm, mm, vb, ub, lv, dst, D, rfl, ⟨hT, hDs⟩, hMp, hb3⟩
  have HT := Lib.hid hT
  have HMp := Lib.hid hMp
  clear hMp
  have HD := Lib.hid hDs
  obtain ⟨al, cp, rfl, hal⟩ : ∃ al cp, lv = .slice al n cp ∧ (0 < n → ∃ g, al = some ⟨g, 0, none⟩) := by
    rcases hT.list.2 with ⟨h, h0⟩ | ⟨g, cap, cur, h, -⟩
    · exact ⟨none, 0, by rw [h, h0], fun h => absurd h (by omega)⟩
    · exact ⟨_, cap, h, fun _ => ⟨g, rfl⟩⟩
  have HAL := Lib.hid hal
  have t6 : w3.cell? ⟨t, 6, none⟩ = some (.int .i64 0) := by rw [cell_of_row w3 t 6 _ 76 _ hT.head]; rfl
  have t2 : w3.cell? ⟨t, 2, none⟩ = some (.slice al n cp) := by rw [cell_of_row w3 t 2 _ 76 _ hT.head]; rfl
  have t5 : w3.cell? ⟨t, 5, none⟩ = some (.slice (some ⟨ub, 0, none⟩) m m) := by rw [cell_of_row w3 t 5 _ 76 _ hT.head]; rfl
  have HB : Hid (Below w.heap.size w w3) := (hb1.trans (hb2.mono hb1.size)).trans (hb3.mono (Nat.le_trans hb1.size hb2.size))
  have HUP : Hid (∀ i, i < m → w3.cell? ⟨ub, i, none⟩ = some (.bool false)) := fun i hi => by
    obtain ⟨us, u1, u2⟩ := HT.out.ups
    rw [cell_of_row w3 ub i _ 4 _ u1]; exact u2 i hi
  have HC3 := Lib.hid (HC2.out.same (below_cells hb3 (Nat.le_refl _)))
  have HM3 : Hid (MineAt w3 mb n pdf) := fun i hi => below_cells hb3 (Nat.le_refl _) _ _ (HMI.out i hi)
  have hs1 := hb1.size
  have hs2 := hb2.size
  have hs3 := hb3.size
  clear hT hDs hal hb1 hb2 hb3 HC1 HC2 HMI
  go_wp2_with fail
  refine (dests_any t _ w3 t6 t2).mono ?_
  rintro e w' ⟨rfl, rfl⟩
  have nn : ((n : Int) == (n : Int)) = true := by simp
  go_wp2
  go_loopw [13] (fun i wr => ∃ k : Nat, k ≤ n ∧ i = .int .i64 k ∧ Below w'.heap.size w' wr) (fun i _ => n - (intOf i).toNat)
  case atStart => exact ⟨0, Nat.zero_le _, rfl, Below.refl _ _⟩
  case round =>
    obtain ⟨k, hk, rfl, hbr⟩ := hrel
    obtain ⟨wo, rfl⟩ : ∃ wo : World, wo = wr := ⟨_, rfl⟩
    by_cases hlt : k < n
    · obtain ⟨g, rfl⟩ := HAL.out (by omega)
      have hkl : k < ds.length := by rw [← HN.out]; exact hlt
      have hdk : ds[k]? = some ds[k] := List.getElem?_eq_getElem hkl
      obtain ⟨nv, rb, rs, h1, h2, h3⟩ := HD.out k _ hdk
      obtain ⟨d0, hd0⟩ : ∃ d0, dst k = d0 := ⟨_, rfl⟩
      obtain ⟨p, hpp⟩ : ∃ p, pdf k = p := ⟨_, rfl⟩
      rw [hd0, hpp] at h1
      have z0 : w'.cell? ⟨d0, 0, none⟩ = some (.pointer (some ⟨p, 0, none⟩)) := by rw [cell_of_row w' d0 0 _ 40 _ h1]; rfl
      have z3 : w'.cell? ⟨d0, 3, none⟩ = some (.pointer none) := by rw [cell_of_row w' d0 3 _ 40 _ h1]; rfl
      have zl : w'.cell? ⟨g, k, none⟩ = some (.pointer (some ⟨d0, 0, none⟩)) := by
        have := HT.out.list.cells (g := g) rfl k (.pointer (some ⟨dst k, 0, none⟩)) (by simp [hlt])
        rw [Addr.add_lit, Nat.zero_add, hd0] at this
        exact this
      have zm : w'.cell? ⟨mb, k, none⟩ = some (.pointer (some ⟨p, 0, none⟩)) := by rw [← hpp]; exact HM3.out k hlt
      have y0 := below_cells hbr (Nat.le_refl _) _ _ z0
      have y3 := below_cells hbr (Nat.le_refl _) _ _ z3
      have yl := below_cells hbr (Nat.le_refl _) _ _ zl
      have ym := below_cells hbr (Nat.le_refl _) _ _ zm
      clear h1 h2 h3 hd0 hpp z0 z3 zl zm hdk
      obtain ⟨j65, hj65⟩ := Option.isSome_iff_exists.1 some65
      have hneq : ∀ u : World, (binOp .neq 36 (.pointer (some ⟨p, 0, none⟩)) (.pointer (some ⟨p, 0, none⟩))).run Try.prog u = .ok (.bool false) u := fun u => Lib.run_neq_ptr_same u _ Try.underlying36 hj65
      clear hj65
      have hneqN := neq35 none
      go_wp2
      go_quiet (fail)
      go_wp2
      go_roundw
      case rel => exact ⟨k + 1, by omega, by go_num, below_drewN hbr⟩
      case measure => simp [intOf]; omega
    · obtain rfl : n = k := by omega
      go_wp2
      go_loopw [14] (fun i wr => ∃ k : Nat, k ≤ n ∧ i = .int .i64 k ∧ Below w'.heap.size w' wr) (fun i _ => n - (intOf i).toNat)
      case atStart => exact ⟨0, Nat.zero_le _, rfl, hbr⟩
      case round =>
        obtain ⟨k, hk2, rfl, hbs⟩ := hrel
        obtain ⟨wx, rfl⟩ : ∃ wx : World, wx = wr := ⟨_, rfl⟩
        by_cases hlt : k < n
        · obtain ⟨g, rfl⟩ := HAL.out (by omega)
          obtain ⟨sb, so, rfl, d, hd, hok, c0, c1, c2, c3, -⟩ := spec_at HS.out k hlt
          have HWX : Hid (Below w.heap.size w wx) := HB.out.trans (hbs.mono HB.out.size)
          have s0 := below_cells HWX.out (Nat.le_refl _) _ _ c0
          have s1 := below_cells HWX.out (Nat.le_refl _) _ _ c1
          have lx : sb < wx.heap.size := World.block_lt_of_cell? wx _ s0
          have i1 : (0 : Int) ≤ (k : Int) := by omega
          have i2 : (k : Int) < (n : Int) := by omega
          go_wp2_with fail
          go_region_held3 (fun w' => w'.cell? ⟨sb, so + k * 4, none⟩ = some (.int .u8 d.kind) ∧ w'.cell? ⟨sb, so + k * 4 + 1, none⟩ = some (.int .u32 d.pc))
            (first | exact ⟨s0, s1⟩ | exact ⟨alloc_cell s0, alloc_cell s1⟩ | go_keep) (fail)
          generalize hwq : (wx.alloc (.cells #[.int .u8 d.kind, .int .u32 d.pc] 48)).drew = wq
          have hxq : Below wx.heap.size wx wq := by rw [← hwq]; exact ((Below.refl _ _).alloc (Nat.le_refl _) _).drew
          have v0 : wq.cell? ⟨wx.heap.size, 0, none⟩ = some (.int .u8 d.kind) := by rw [← hwq]; exact cell_new rfl
          have v1 : wq.cell? ⟨wx.heap.size, 1, none⟩ = some (.int .u32 d.pc) := by rw [← hwq]; exact cell_new rfl
          clear hwq
          have r0 := below_cells hxq (Nat.le_refl _) _ _ s0
          have r1 := below_cells hxq (Nat.le_refl _) _ _ s1
          obtain ⟨j, hj⟩ := lastIx_some hd hlt
          obtain ⟨hj1, -⟩ := lastIx_lt ds n _ _ j hj
          have hbq : Below w'.heap.size w' wq := hbs.trans (hxq.mono hbs.size)
          obtain ⟨dj, hdj⟩ : ∃ dj, dst j = dj := ⟨_, rfl⟩
          have rl : wq.cell? ⟨g, j, none⟩ = some (.pointer (some ⟨dj, 0, none⟩)) := by
            have := HT.out.list.cells (g := g) rfl j (.pointer (some ⟨dst j, 0, none⟩)) (by simp [hj1])
            rw [Addr.add_lit, Nat.zero_add, hdj] at this
            exact below_cells hbq (Nat.le_refl _) _ _ this
          have DSTC : Hid (∀ W, Below w'.heap.size w' W → Calls Try.prog 13 #[.pointer (some ⟨t, 0, none⟩), .agg #[.int .u8 d.kind, .int .u32 d.pc]] W fun e w5 => LookPost W (.pointer (some ⟨dj, 0, none⟩)) e w5) := fun W hW => by
            have := dest_any _ t c dm mm vb ub m _ n _ dst D ds d.kind d.pc W (HT.out.below hW) HMp.out hok.1 hok.2.1 hok.2.2.1 hok.2.2.2.1
            rw [hj] at this
            simp only [ixV, hdj] at this
            exact this
          have LASTC : Hid (∀ W, Below w'.heap.size w' W → Calls Try.prog 14 #[.slice (some ⟨sb, so, none⟩) n cap, .int .u8 d.kind, .int .u32 d.pc] W fun e w5 => e = .returned (.int .i64 (j : Int)) ∧ W = w5) := fun W hW => by
            have := last_any (some ⟨sb, so, none⟩) n cap ds d.kind d.pc W hn4 (HS.out.below (HB.out.trans (hW.mono HB.out.size)))
            rw [show lastI ds n d.kind d.pc = (j : Int) by unfold lastI; rw [hj]] at this
            exact this
          have hneqJ := neq35 (some ⟨dj, 0, none⟩)
          have j1 : (0 : Int) ≤ (j : Int) := by omega
          have j2 : (j : Int) < (n : Int) := by omega
          have HOK := Lib.hid hok
          have HDk := Lib.hid hd
          have HJ := Lib.hid hj
          clear hok hd hj c0 c1 c2 c3 hdj
          go_wp2_with fail
          go_region_held3 (fun w' => w'.cell? ⟨wx.heap.size, 0, none⟩ = some (.int .u8 d.kind) ∧ w'.cell? ⟨wx.heap.size, 1, none⟩ = some (.int .u32 d.pc) ∧ w'.cell? ⟨sb, so + k * 4, none⟩ = some (.int .u8 d.kind) ∧ w'.cell? ⟨sb, so + k * 4 + 1, none⟩ = some (.int .u32 d.pc) ∧ w'.cell? ⟨g, j, none⟩ = some (.pointer (some ⟨dj, 0, none⟩)))
            (first | exact ⟨v0, v1, r0, r1, rl⟩ | exact ⟨below_cells hb5 (Nat.le_refl _) _ _ v0, below_cells hb5 (Nat.le_refl _) _ _ v1, below_cells hb5 (Nat.le_refl _) _ _ r0, below_cells hb5 (Nat.le_refl _) _ _ r1, below_cells hb5 (Nat.le_refl _) _ _ rl⟩)
            ((first | (go_at_call 13; refine (DSTC.out _ hbq.drew).mono ?_; rintro e w5 ⟨rfl, hb5'⟩; have hb5 : Below wq.heap.size wq w5 := ((Below.refl _ _).drew).trans hb5'; clear hb5') | (go_at_call 14; refine (LASTC.out _ hbq.drew).mono ?_; rintro e w6 ⟨rfl, rfl⟩) | (go_at_call 14; refine (LASTC.out _ (hbq.trans (hb5.mono hbq.size))).mono ?_; rintro e w6 ⟨rfl, rfl⟩)))
          have hb5w : Below w'.heap.size w' w5 := hbq.trans (hb5.mono hbq.size)
          have x0 := below_cells hb5 (Nat.le_refl _) _ _ r0
          have x1 := below_cells hb5 (Nat.le_refl _) _ _ r1
          obtain ⟨pv, hpv⟩ := nestV_ptr ds n dst d
          obtain ⟨d0, hd0⟩ : ∃ d0, dst k = d0 := ⟨_, rfl⟩
          have xl : w5.cell? ⟨g, k, none⟩ = some (.pointer (some ⟨d0, 0, none⟩)) := by
            have := HT.out.list.cells (g := g) rfl k (.pointer (some ⟨dst k, 0, none⟩)) (by simp [hlt])
            rw [Addr.add_lit, Nat.zero_add, hd0] at this
            exact below_cells hb5w (Nat.le_refl _) _ _ this
          have xn : w5.cell? ⟨d0, 4, none⟩ = some (.pointer pv) := by
            obtain ⟨nv, rb, rs, h1, -⟩ := HD.out k d HDk.out
            rw [if_pos hlt, hpv, hd0] at h1
            exact below_cells hb5w (Nat.le_refl _) _ _ (by rw [cell_of_row w' d0 4 _ 40 _ h1]; rfl)
          have hneqP := neq35 pv
          have WANTC : Hid (d.kind = 0 → Calls Try.prog 15 #[.slice (some ⟨g, 0, none⟩) n cp, .slice (some ⟨sb, so, none⟩) n cap, .int .u32 d.pc] w5 fun e w6 => e = .returned (.pointer pv) ∧ w5 = w6) := fun hk0 => by
            have := want_any (some ⟨g, 0, none⟩) (some ⟨sb, so, none⟩) n cp cap ds dst d.pc w5 hn4 (HS.out.below (HB.out.trans (hb5w.mono HB.out.size))) (fun _ => ⟨g, rfl, fun i hi => by
              have h7 := HT.out.list.cells (g := g) rfl i (.pointer (some ⟨dst i, 0, none⟩)) (by simp [hi])
              rw [Addr.add_lit, Nat.zero_add] at h7
              exact below_cells hb5w (Nat.le_refl _) _ _ h7⟩)
            rw [show wantV ds n dst d.pc = .pointer pv by rw [← hpv]; unfold nestV; rw [if_pos hk0]] at this
            exact this
          have HPV : Hid (d.kind ≠ 0 → pv = none) := fun h => by
            have h8 := hpv
            unfold nestV at h8
            rw [if_neg h] at h8
            cases h8
            rfl
          clear hpv hd0 v0 v1 r0 r1 rl s0 s1
          by_cases hk0 : d.kind = 0
          · have W0 := Lib.hid (WANTC.out hk0)
            have kd : (d.kind == 0) = true := by simp [hk0]
            clear hk0 WANTC HPV
            cases pv with
            | none =>
              go_wp2_with (first | (go_at_call 15; refine W0.out.mono ?_; rintro e w6 ⟨rfl, rfl⟩) | (go_at_call 16; refine (dnest_any d0 (.pointer none) _ xn).mono ?_; rintro e w7 ⟨rfl, rfl⟩))
              go_roundw
              case rel => exact ⟨k + 1, by omega, by go_num, hb5w⟩
              case measure => simp [intOf]; omega
            | some av =>
              go_wp2_with (first | (go_at_call 15; refine W0.out.mono ?_; rintro e w6 ⟨rfl, rfl⟩) | (go_at_call 16; refine (dnest_any d0 (.pointer (some av)) _ xn).mono ?_; rintro e w7 ⟨rfl, rfl⟩))
              go_roundw
              case rel => exact ⟨k + 1, by omega, by go_num, hb5w⟩
              case measure => simp [intOf]; omega
          · obtain rfl := HPV.out hk0
            have kd : (d.kind == 0) = false := by simp [hk0]
            clear WANTC HPV
            go_wp2_with (go_at_call 16; refine (dnest_any d0 (.pointer none) _ xn).mono ?_; rintro e w7 ⟨rfl, rfl⟩)
            go_roundw
            case rel => exact ⟨k + 1, by omega, by go_num, hb5w⟩
            case measure => simp [intOf]; omega
        · obtain rfl : n = k := by omega
          have hW : Below w'.heap.size w' (wx.alloc (.cells #[.int .u8 pk, .int .u32 pp] 48)) := hbs.alloc hbs.size _
          obtain ⟨pw, hpw⟩ := wantV_ptr ds n dst pp
          have NESTC : Hid (∀ W, Below w'.heap.size w' W → Calls Try.prog 17 #[.pointer (some ⟨t, 0, none⟩), .int .u32 pp] W fun e w6 => LookPost W (.pointer pw) e w6) := fun W hX =>
            nest_ptr _ t c dm mm vb ub m _ n _ dst pdf D ds pp W (HT.out.below hX) HMp.out k3 k4 (fun i d' hi hin => ⟨⟨_, (HD.out i d' hi).kp (Kp.below hX)⟩, by
              obtain ⟨lsb, pb, -, -, hP⟩ := HC3.out
              have hil := (List.getElem?_eq_some_iff.1 hi).1
              have h2 := (hP i hil hil).2.2.2.2.1
              rw [(List.getElem?_eq_some_iff.1 hi).2] at h2
              exact below_cells hX (Nat.le_refl _) _ _ h2⟩) pw pp hpw rfl
          have WANTC : Hid (∀ W, Below w'.heap.size w' W → Calls Try.prog 15 #[.slice al n cp, .slice a n cap, .int .u32 pp] W fun e w6 => e = .returned (.pointer pw) ∧ W = w6) := fun W hX => by
            rw [← hpw]
            exact want_any al a n cp cap ds dst pp W hn4 (HS.out.below (HB.out.trans (hX.mono HB.out.size))) (fun h0 => by
              obtain ⟨g, hg⟩ := HAL.out h0
              refine ⟨g, hg, fun i hi => ?_⟩
              have h7 := HT.out.list.cells (g := g) (by rw [hg]; rfl) i (.pointer (some ⟨dst i, 0, none⟩)) (by simp [hi])
              rw [Addr.add_lit, Nat.zero_add] at h7
              exact below_cells hX (Nat.le_refl _) _ _ h7)
          have LASTC := Lib.hid (last_any a n cap ds pk pp _ hn4 (HS.out.below (HB.out.trans (hW.mono HB.out.size))))
          have DSTC := Lib.hid (dest_any _ t c dm mm vb ub m _ n _ dst D ds pk pp _ (HT.out.below hW) HMp.out k1 k2 k3 k4)
          have heqP := eql35 pw
          cases hx : lastIx ds n pk pp with
          | none =>
            rw [show lastI ds n pk pp = -1 by unfold lastI; rw [hx]] at LASTC
            rw [hx] at DSTC
            simp only [ixV] at DSTC
            have hneqP := neq35 none
            clear hx hpw
            go_wp2_with (first | (go_at_call 14; refine LASTC.out.mono ?_; rintro e w4 ⟨rfl, rfl⟩) | (go_at_call 13; refine DSTC.out.mono ?_; rintro e w5 ⟨rfl, hb5⟩) | (go_at_call 17; refine (NESTC.out _ (hW.trans (hb5.mono hW.size))).mono ?_; rintro e w6 ⟨rfl, hb6⟩) | (go_at_call 15; refine (WANTC.out _ ((hW.trans (hb5.mono hW.size)).trans (hb6.mono (hW.trans (hb5.mono hW.size)).size))).mono ?_; rintro e w7 ⟨rfl, rfl⟩))
            go_ret
            exact ⟨rfl, HB.out.trans (((hW.trans (hb5.mono hW.size)).trans (hb6.mono (hW.trans (hb5.mono hW.size)).size)).mono HB.out.size)⟩
          | some j =>
            obtain ⟨hj1, -⟩ := lastIx_lt ds n _ _ j hx
            obtain ⟨g, rfl⟩ := HAL.out (by omega)
            obtain ⟨dj, hdj⟩ : ∃ dj, dst j = dj := ⟨_, rfl⟩
            rw [show lastI ds n pk pp = (j : Int) by unfold lastI; rw [hx]] at LASTC
            rw [hx] at DSTC
            simp only [ixV, hdj] at DSTC
            have rl : (wx.alloc (.cells #[.int .u8 pk, .int .u32 pp] 48)).cell? ⟨g, j, none⟩ = some (.pointer (some ⟨dj, 0, none⟩)) := by
              have h7 := HT.out.list.cells (g := g) rfl j (.pointer (some ⟨dst j, 0, none⟩)) (by simp [hj1])
              rw [Addr.add_lit, Nat.zero_add, hdj] at h7
              exact below_cells hW (Nat.le_refl _) _ _ h7
            have rl2 : wx.cell? ⟨g, j, none⟩ = some (.pointer (some ⟨dj, 0, none⟩)) := by
              have h7 := HT.out.list.cells (g := g) rfl j (.pointer (some ⟨dst j, 0, none⟩)) (by simp [hj1])
              rw [Addr.add_lit, Nat.zero_add, hdj] at h7
              exact below_cells hbs (Nat.le_refl _) _ _ h7
            have lg : g < wx.heap.size := World.block_lt_of_cell? wx _ rl2
            have hneqP := neq35 (some ⟨dj, 0, none⟩)
            have j1 : (0 : Int) ≤ (j : Int) := by omega
            have j2 : (j : Int) < (n : Int) := by omega
            clear hx hpw hdj
            go_wp2_with (first | (go_at_call 14; refine LASTC.out.mono ?_; rintro e w4 ⟨rfl, rfl⟩) | (go_at_call 13; refine DSTC.out.mono ?_; rintro e w5 ⟨rfl, hb5⟩) | (go_at_call 17; refine (NESTC.out _ (hW.trans (hb5.mono hW.size))).mono ?_; rintro e w6 ⟨rfl, hb6⟩) | (go_at_call 15; refine (WANTC.out _ ((hW.trans (hb5.mono hW.size)).trans (hb6.mono (hW.trans (hb5.mono hW.size)).size))).mono ?_; rintro e w7 ⟨rfl, rfl⟩))
            go_ret
            exact ⟨rfl, HB.out.trans (((hW.trans (hb5.mono hW.size)).trans (hb6.mono (hW.trans (hb5.mono hW.size)).size)).mono HB.out.size)⟩
end Go.Proofs.Qxb6613577a
