import Derived.Test.Qxb6613577aDst
import Derived.Deep.QuietTactic
import Derived.BigQuiet
namespace Go.Proofs.Qxb6613577a
open Go.RowKit
set_option linter.unusedVariables false
set_option linter.unusedSimpArgs false

/-- zzLast's answer. -/
def lastI (ds : List DS) (k : Nat) (kind pc : Int) : Int := match lastIx ds k kind pc with
  | none => -1
  | some i => (i : Int)

theorem lastIx_hit {ds : List DS} {k : Nat} {kind pc : Int} {d : DS} (hd : ds[k]? = some d) (h : d.kind = kind ∧ d.pc = pc) : lastIx ds (k + 1) kind pc = some k := by
  unfold lastIx; rw [hd]; simp only [h, and_self, if_true]
theorem lastIx_miss {ds : List DS} {k : Nat} {kind pc : Int} {d : DS} (hd : ds[k]? = some d) (h : ¬ (d.kind = kind ∧ d.pc = pc)) : lastIx ds (k + 1) kind pc = lastIx ds k kind pc := by
  rw [lastIx, hd]; simp only [h, if_false]

set_option maxHeartbeats 2000000 in
theorem last_any (a : Option Addr) (n cap : Nat) (ds : List DS) (kind pc : Int) (w : World) (hn : n ≤ 4096) (hs : SpecAt w a n ds) :
    Calls Try.prog 14 #[.slice a n cap, .int .u8 kind, .int .u32 pc] w fun e w' => e = .returned (.int .i64 (lastI ds n kind pc)) ∧ w = w' := by
  have HS := Lib.hid hs
  clear hs
  go_enter Try.func14, Try.ntmps14
  go_wp2
  go_loop [7] (fun i => ∃ k : Nat, k ≤ n ∧ i = .int .i64 ((k : Int) - 1) ∧ Hid (lastIx ds n kind pc = lastIx ds k kind pc)) (fun i => (intOf i + 1).toNat)
  case atStart => exact ⟨n, Nat.le_refl _, rfl, rfl⟩
  case round =>
    obtain ⟨k, hk, rfl, HL⟩ := hrel
    cases k with
    | zero =>
      go_wp2
      go_ret
      refine ⟨?_, rfl⟩
      unfold lastI
      rw [HL.out]
      rfl
    | succ k =>
      have e1 : ((k + 1 : Nat) : Int) - 1 = (k : Int) := by omega
      rw [e1]
      obtain ⟨b, o, rfl, d, hd, hok, c0, c1, c2, c3, -⟩ := spec_at HS.out k (by omega)
      have i1 : (0 : Int) ≤ (k : Int) := by omega
      have i2 : (k : Int) < (n : Int) := by omega
      have HDD := Lib.hid hd
      clear hd hok c2 c3
      by_cases h1 : d.kind = kind
      · by_cases h2 : d.pc = pc
        · have HLk : Hid (lastIx ds n kind pc = some k) := HL.out.trans (lastIx_hit HDD.out ⟨h1, h2⟩)
          rw [h1] at c0
          rw [h2] at c1
          clear h1 h2
          go_wp2
          go_ret
          refine ⟨?_, rfl⟩
          unfold lastI
          rw [HLk.out]
          rfl
        · have HLk : Hid (lastIx ds n kind pc = lastIx ds k kind pc) := HL.out.trans (lastIx_miss HDD.out (fun h => h2 h.2))
          have q2 : (d.pc == pc) = false := by simp [h2]
          rw [h1] at c0
          clear h1
          go_wp2
          go_round
          case rel => exact ⟨k, by omega, by go_num, HLk⟩
          case measure => simp [intOf] <;> omega
      · have HLk : Hid (lastIx ds n kind pc = lastIx ds k kind pc) := HL.out.trans (lastIx_miss HDD.out (fun h => h1 h.1))
        have q1 : (d.kind == kind) = false := by simp [h1]
        go_wp2
        go_round
        case rel => exact ⟨k, by omega, by go_num, HLk⟩
        case measure => simp [intOf] <;> omega

set_option maxHeartbeats 2000000 in
theorem want_any (al a : Option Addr) (n cp cap : Nat) (ds : List DS) (dst : Nat → Nat) (pc : Int) (w : World) (hn : n ≤ 4096) (hs : SpecAt w a n ds) (hl : 0 < n → ∃ g, al = some ⟨g, 0, none⟩ ∧ ∀ i, i < n → w.cell? ⟨g, i, none⟩ = some (.pointer (some ⟨dst i, 0, none⟩))) :
    Calls Try.prog 15 #[.slice al n cp, .slice a n cap, .int .u32 pc] w fun e w' => e = .returned (wantV ds n dst pc) ∧ w = w' := by
  have HS := Lib.hid hs
  have HL := Lib.hid (last_any a n cap ds 1 (clOf pc) w hn hs)
  have hln : n = ds.length := hs.1
  have HW : Hid (wantV ds n dst pc = wantV ds n dst pc) := rfl
  cases hx : lastIx ds n 1 (clOf pc) with
  | none =>
    have hwv : wantV ds n dst pc = .pointer none := by unfold wantV; rw [hx]
    have hli : lastI ds n 1 (clOf pc) = -1 := by unfold lastI; rw [hx]
    rw [hwv]
    rw [hli] at HL
    clear hs hl hln hx hwv hli HW
    go_enter Try.func15, Try.ntmps15
    go_wp2_with (go_at_call 14; refine HL.out.mono ?_; rintro e w' ⟨rfl, rfl⟩)
    go_ret
    exact ⟨rfl, rfl⟩
  | some j =>
    obtain ⟨hj1, hj2⟩ := lastIx_lt ds n 1 (clOf pc) j hx
    obtain ⟨b, o, rfl, d, hd, hok, c0, c1, c2, c3, -⟩ := spec_at hs j hj1
    obtain ⟨g, rfl, hg⟩ := hl (by omega)
    have cg := hg j hj1
    have hwv : wantV ds n dst pc = if d.nc then .pointer (some ⟨dst j, 0, none⟩) else .pointer none := by unfold wantV; rw [hx]; simp only [hd]
    have hli : lastI ds n 1 (clOf pc) = (j : Int) := by unfold lastI; rw [hx]
    rw [hwv]
    rw [hli] at HL
    have i1 : (0 : Int) ≤ (j : Int) := by omega
    have i2 : (j : Int) < (n : Int) := by omega
    have dj : decide ((j : Int) < 0) = false := decide_eq_false (by omega)
    generalize dst j = dd at cg ⊢
    clear hs hg hln hx hwv hli HW hd hok c0 c1 c3 hj2
    cases hnc : d.nc with
    | true =>
      rw [hnc] at c2
      go_enter Try.func15, Try.ntmps15
      go_wp2_with (go_at_call 14; refine HL.out.mono ?_; rintro e w' ⟨rfl, rfl⟩)
      go_ret
      exact ⟨rfl, rfl⟩
    | false =>
      rw [hnc] at c2
      go_enter Try.func15, Try.ntmps15
      go_wp2_with (go_at_call 14; refine HL.out.mono ?_; rintro e w' ⟨rfl, rfl⟩)
      go_ret
      exact ⟨rfl, rfl⟩

theorem cluster_any (d0 : Nat) (v : Value) (w : World) (h : w.cell? ⟨d0, 3, none⟩ = some v) : Calls Try.prog 12 #[.pointer (some ⟨d0, 0, none⟩)] w fun e w' => e = .returned v ∧ w = w' := by
  go_enter Try.func12, Try.ntmps12
  go_wp2
  go_ret
  exact ⟨rfl, rfl⟩
theorem dnest_any (d0 : Nat) (v : Value) (w : World) (h : w.cell? ⟨d0, 4, none⟩ = some v) : Calls Try.prog 16 #[.pointer (some ⟨d0, 0, none⟩)] w fun e w' => e = .returned v ∧ w = w' := by
  go_enter Try.func16, Try.ntmps16
  go_wp2
  go_ret
  exact ⟨rfl, rfl⟩
end Go.Proofs.Qxb6613577a
