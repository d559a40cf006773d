import Derived.Test.Qxb6613577aBase
namespace Go.Proofs.Qxb6613577a
open Go.RowKit
set_option linter.unusedVariables false

set_option maxHeartbeats 1000000 in
theorem bytes18 (nl : Int) (a : Option Addr) (n cap : Nat) (ds : List DS) (w : World) (hm : n ≤ 9223372036854775807) (hs : SpecAt w a n ds) :
    Calls Try.prog 18 #[.int .i64 nl, .slice a n cap] w fun e w' => Goes e True ∧ w = w' := by
  by_cases h4 : 1048576 < n
  · go_enter Try.func18, Try.ntmps18
    go_wp2
    go_ret
    exact ⟨Or.inl rfl, rfl⟩
  have HS := Lib.hid hs
  clear hs
  have d1 : decide ((1048576 : Int) < (n : Int)) = false := decide_eq_false (by omega)
  go_enter Try.func18, Try.ntmps18
  go_wp2
  go_loop [5, 6] (fun t i => ∃ k : Nat, k ≤ n ∧ i = .int .i64 k ∧ ∃ R : Nat, t = .int .i64 (R : Int) ∧ R ≤ 1048576) (fun _ i => n - (intOf i).toNat)
  case atStart => exact ⟨0, Nat.zero_le _, rfl, n, rfl, by omega⟩
  case round =>
    obtain ⟨k, hk, rfl, R, rfl, hR⟩ := hrel
    by_cases hlt : k < n
    · obtain ⟨b, o, rfl, d, hd, hok, c0, c1, c2, c3, -⟩ := spec_at HS.out k hlt
      have hrn : d.rn ≤ 9223372036854775807 := hok.2.2.2.2.1
      clear hd hok
      by_cases h1 : 1048576 < d.rn
      · go_wp2
        go_ret
        exact ⟨Or.inl rfl, rfl⟩
      by_cases h2 : 1048576 < (R : Int) + (d.rn : Int)
      · go_wp2
        go_ret
        exact ⟨Or.inl rfl, rfl⟩
      go_wp2
      go_round
      case rel => exact ⟨k + 1, by omega, by go_num, R + d.rn, by go_num, by omega⟩
      case measure => simp [intOf]; omega
    · obtain rfl : n = k := by omega
      go_wp2
      go_ret
      exact ⟨Or.inr ⟨rfl, trivial⟩, rfl⟩

set_option maxHeartbeats 1000000 in
theorem bytes5 (nl pk pp : Int) (a : Option Addr) (n cap : Nat) (ds : List DS) (w : World) (hm : n ≤ 9223372036854775807) (hs : SpecAt w a n ds) :
    Calls Try.prog 5 #[.int .i64 nl, .slice a n cap, .int .u8 pk, .int .u32 pp] w fun e w' => Goes e True ∧ w = w' := by
  by_cases h4 : 1048576 < n
  · go_enter Try.func5, Try.ntmps5
    go_wp2
    go_ret
    exact ⟨Or.inl rfl, rfl⟩
  have HS := Lib.hid hs
  clear hs
  have d1 : decide ((1048576 : Int) < (n : Int)) = false := decide_eq_false (by omega)
  go_enter Try.func5, Try.ntmps5
  go_wp2
  go_loop [9, 10] (fun t i => ∃ k : Nat, k ≤ n ∧ i = .int .i64 k ∧ ∃ R : Nat, t = .int .i64 (R : Int) ∧ R ≤ 1048576) (fun _ i => n - (intOf i).toNat)
  case atStart => exact ⟨0, Nat.zero_le _, rfl, n, rfl, by omega⟩
  case round =>
    obtain ⟨k, hk, rfl, R, rfl, hR⟩ := hrel
    by_cases hlt : k < n
    · obtain ⟨b, o, rfl, d, hd, hok, c0, c1, c2, c3, -⟩ := spec_at HS.out k hlt
      have hrn : d.rn ≤ 9223372036854775807 := hok.2.2.2.2.1
      clear hd hok
      by_cases h1 : 1048576 < d.rn
      · go_wp2
        go_ret
        exact ⟨Or.inl rfl, rfl⟩
      by_cases h2 : 1048576 < (R : Int) + (d.rn : Int)
      · go_wp2
        go_ret
        exact ⟨Or.inl rfl, rfl⟩
      go_wp2
      go_round
      case rel => exact ⟨k + 1, by omega, by go_num, R + d.rn, by go_num, by omega⟩
      case measure => simp [intOf]; omega
    · obtain rfl : n = k := by omega
      go_wp2
      go_ret
      exact ⟨Or.inr ⟨rfl, trivial⟩, rfl⟩

/-- Every route names a linkset. -/
def InRange (nl : Nat) (d : DS) : Prop := ∀ j, j < d.rn → 0 ≤ d.ls j ∧ d.ls j < nl

set_option maxHeartbeats 2000000 in
theorem inRange_any (nl : Nat) (a : Option Addr) (n cap : Nat) (ds : List DS) (w : World) (hm : n ≤ 4096) (hnl : nl ≤ 65536) (hs : SpecAt w a n ds) (hrs : ∀ d ∈ ds, d.rn ≤ 65536) :
    Calls Try.prog 7 #[.int .i64 nl, .slice a n cap] w fun e w' => Goes e (∀ d ∈ ds, InRange nl d) ∧ w = w' := by
  have HS := Lib.hid hs
  have HRS := Lib.hid hrs
  clear hs hrs
  go_enter Try.func7, Try.ntmps7
  go_wp2
  go_loop [5] (fun i => ∃ k : Nat, k ≤ n ∧ i = .int .i64 k ∧ Hid (∀ j (h : j < ds.length), j < k → InRange nl ds[j])) (fun i => n - (intOf i).toNat)
  case atStart => exact ⟨0, Nat.zero_le _, rfl, fun j h h' => absurd h' (by omega)⟩
  case round =>
    obtain ⟨k, hk, rfl, HR⟩ := hrel
    by_cases hlt : k < n
    · obtain ⟨b, o, rfl, d, hd, hok, c0, c1, c2, c3, hrs⟩ := spec_at HS.out k hlt
      have hkl : k < ds.length := (List.getElem?_eq_some_iff.1 hd).1
      have hdk : ds[k] = d := (List.getElem?_eq_some_iff.1 hd).2
      have hrn : d.rn ≤ 65536 := by rw [← hdk]; exact HRS.out _ (List.getElem_mem hkl)
      have HDK := Lib.hid hdk
      have HRR := Lib.hid hrs
      have HOK := Lib.hid hok
      clear hd hok hdk hrs
      go_wp2
      go_loop [6] (fun i => ∃ j : Nat, j ≤ d.rn ∧ i = .int .i64 j ∧ Hid (∀ t, t < j → 0 ≤ d.ls t ∧ d.ls t < nl)) (fun i => d.rn - (intOf i).toNat)
      case atStart => exact ⟨0, Nat.zero_le _, rfl, fun t h => absurd h (by omega)⟩
      case round =>
        obtain ⟨j, hj, rfl, HJ⟩ := hrel
        by_cases hjt : j < d.rn
        · obtain ⟨rb, ro, hra, hcs⟩ := HRR.out.resolve_left (by omega)
          obtain ⟨e1, -⟩ := hcs j hjt
          obtain ⟨l1, l2⟩ := HOK.out.2.2.2.2.2 j hjt
          have hls : ∃ L, d.ls j = L := ⟨_, rfl⟩
          obtain ⟨L, hL⟩ := hls
          rw [hL] at e1 l1 l2
          have HLL := Lib.hid hL
          rw [hra] at c3
          clear hcs hL
          by_cases g1 : L < 0
          · go_wp2
            go_ret
            exact ⟨Or.inl rfl, rfl⟩
          by_cases g2 : (nl : Int) ≤ L
          · go_wp2
            go_ret
            exact ⟨Or.inl rfl, rfl⟩
          clear hra
          go_wp2
          go_round
          case rel =>
            refine ⟨j + 1, by omega, by go_num, fun t ht => ?_⟩
            by_cases e : t = j
            · subst e; rw [HLL.out]; omega
            · exact HJ.out t (by omega)
          case measure => simp [intOf]; omega
        · obtain rfl : j = d.rn := by omega
          go_wp2
          go_round
          case rel =>
            refine ⟨k + 1, by omega, by go_num, fun t h ht => ?_⟩
            by_cases e : t = k
            · subst e; rw [HDK.out]; exact HJ.out
            · exact HR.out t h (by omega)
          case measure => simp [intOf]; omega
    · obtain rfl : n = k := by omega
      go_wp2
      go_ret
      refine ⟨Or.inr ⟨rfl, fun d hd => ?_⟩, rfl⟩
      obtain ⟨j, hj, rfl⟩ := List.getElem_of_mem hd
      exact HR.out j hj (by have := HS.out.1; omega)
end Go.Proofs.Qxb6613577a
