import Derived.Test.Qxb6613577aRows
import Derived.WalkKit
import Derived.WalkSpells
import Derived.WalkLawsBesides
import Derived.OwnWalk
import Derived.Lib.Hide
import Derived.Lib.SliceRun
import Derived.RegionTactic
namespace Go.Proofs.Qxb6613577a
open Go.RowKit
set_option linter.unusedVariables false

/-- One destination line, as it lies in memory. -/
structure DS where
  kind : Int
  pc : Int
  nc : Bool
  ra : Option Addr
  rn : Nat
  rc : Nat
  ls : Nat → Int
  cost : Nat → Int

/-- The routes of a line: nil or none; or a row of pairs. -/
def RsAt (w : World) (d : DS) : Prop := d.rn = 0 ∨ ∃ rb ro, d.ra = some ⟨rb, ro, none⟩ ∧ ∀ j, j < d.rn → w.cell? ⟨rb, ro + j * 2, none⟩ = some (.int .i64 (d.ls j)) ∧ w.cell? ⟨rb, ro + j * 2 + 1, none⟩ = some (.int .i64 (d.cost j))

def DsAt (w : World) (b o : Nat) (d : DS) : Prop :=
  w.cell? ⟨b, o, none⟩ = some (.int .u8 d.kind) ∧ w.cell? ⟨b, o + 1, none⟩ = some (.int .u32 d.pc) ∧ w.cell? ⟨b, o + 2, none⟩ = some (.bool d.nc) ∧ w.cell? ⟨b, o + 3, none⟩ = some (.slice d.ra d.rn d.rc) ∧ RsAt w d

/-- What a line's numbers are bound by. -/
def DsOk (d : DS) : Prop := 0 ≤ d.kind ∧ d.kind ≤ 255 ∧ 0 ≤ d.pc ∧ d.pc ≤ 4294967295 ∧ d.rn ≤ 9223372036854775807 ∧ ∀ j, j < d.rn → (-9223372036854775808 ≤ d.ls j ∧ d.ls j ≤ 9223372036854775807)

/-- The lines that came in. -/
def SpecAt (w : World) (a : Option Addr) (n : Nat) (ds : List DS) : Prop :=
  n = ds.length ∧ (∀ d ∈ ds, DsOk d) ∧ (n = 0 ∨ ∃ b o, a = some ⟨b, o, none⟩ ∧ ∀ i (h : i < ds.length), DsAt w b (o + i * 4) ds[i])

/-- A test's answer: 'yes', or 'no' and then this holds (or the other way round). -/
def Stops (e : Ending) (g : Prop) : Prop := e = .returned (.bool true) ∨ e = .returned (.bool false) ∧ g
def Goes (e : Ending) (g : Prop) : Prop := e = .returned (.bool false) ∨ e = .returned (.bool true) ∧ g

/-- How many routes the first k lines have. -/
def sumR (ds : List DS) (k : Nat) : Nat := ((ds.take k).map (·.rn)).sum
theorem sumR_zero (ds : List DS) : sumR ds 0 = 0 := by simp [sumR]
theorem sumR_succ (ds : List DS) (k : Nat) (h : k < ds.length) : sumR ds (k + 1) = sumR ds k + ds[k].rn := by
  unfold sumR; rw [List.take_succ_eq_append_getElem h, List.map_append, List.sum_append]; simp

theorem SpecAt.below {w w' : World} {a : Option Addr} {n : Nat} {ds : List DS} (h : SpecAt w a n ds) (hb : Below w.heap.size w w') : SpecAt w' a n ds := by
  have key : ∀ q v, w.cell? q = some v → w'.cell? q = some v := fun q v hq => by rw [hb.cell (p := q) (World.block_lt_of_cell? w q hq)]; exact hq
  obtain ⟨h1, h2, h3 | ⟨b, o, ha, hd⟩⟩ := h
  · exact ⟨h1, h2, Or.inl h3⟩
  · refine ⟨h1, h2, Or.inr ⟨b, o, ha, fun i hi => ?_⟩⟩
    obtain ⟨c0, c1, c2, c3, c4⟩ := hd i hi
    refine ⟨key _ _ c0, key _ _ c1, key _ _ c2, key _ _ c3, ?_⟩
    rcases c4 with c4 | ⟨rb, ro, hra, hj⟩
    · exact Or.inl c4
    · exact Or.inr ⟨rb, ro, hra, fun j hj' => ⟨key _ _ (hj j hj').1, key _ _ (hj j hj').2⟩⟩

theorem spec_at {w : World} {a : Option Addr} {n : Nat} {ds : List DS} (h : SpecAt w a n ds) (k : Nat) (hk : k < n) : ∃ b o, a = some ⟨b, o, none⟩ ∧ ∃ d, ds[k]? = some d ∧ DsOk d ∧ DsAt w b (o + k * 4) d := by
  obtain ⟨hn, hok, h0 | ⟨b, o, ha, hd⟩⟩ := h
  · omega
  · have hk' : k < ds.length := by omega
    exact ⟨b, o, ha, ds[k], List.getElem?_eq_getElem hk', hok _ (List.getElem_mem hk'), hd k hk'⟩

set_option maxHeartbeats 1000000 in
theorem tooBig_any (a : Option Addr) (n cap : Nat) (ds : List DS) (w : World) (hm : n ≤ 9223372036854775807) (hs : SpecAt w a n ds) :
    Calls Try.prog 6 #[.slice a n cap] w fun e w' => Stops e (n ≤ 4096 ∧ sumR ds n ≤ 65536 ∧ ∀ d ∈ ds, d.rn ≤ 65536) ∧ w = w' := by
  by_cases h4 : 4096 < n
  · go_enter Try.func6, Try.ntmps6
    go_wp2
    go_ret
    exact ⟨Or.inl rfl, rfl⟩
  have HS := Lib.hid hs
  clear hs
  have d1 : decide ((4096 : Int) < (n : Int)) = false := decide_eq_false (by omega)
  have d2 : decide ((1048576 : Int) < 32 * (n : Int)) = false := decide_eq_false (by omega)
  go_enter Try.func6, Try.ntmps6
  go_wp2
  go_loop [3, 4] (fun t i => ∃ k : Nat, k ≤ n ∧ i = .int .i64 k ∧ ∃ R : Nat, t = .int .i64 (32 * (n : Int) + 16 * (R : Int)) ∧ R ≤ 65536 ∧ Hid (R = sumR ds k ∧ ∀ j (h : j < ds.length), j < k → ds[j].rn ≤ 65536)) (fun _ i => n - (intOf i).toNat)
  case atStart => exact ⟨0, Nat.zero_le _, rfl, 0, by simp, by omega, by rw [sumR_zero]; exact ⟨rfl, fun j h h' => absurd h' (by omega)⟩⟩
  case round =>
    obtain ⟨k, hk, rfl, R, rfl, hR, HR⟩ := hrel
    by_cases hlt : k < n
    · obtain ⟨b, o, rfl, d, hd, hok, c0, c1, c2, c3, -⟩ := spec_at HS.out k hlt
      have hrn : d.rn ≤ 9223372036854775807 := hok.2.2.2.2.1
      have hkl : k < ds.length := (List.getElem?_eq_some_iff.1 hd).1
      have hdk : ds[k] = d := (List.getElem?_eq_some_iff.1 hd).2
      have HDK := Lib.hid hdk
      clear hd hok hdk
      by_cases h1 : 65536 < d.rn
      · go_wp2
        go_ret
        exact ⟨Or.inl rfl, rfl⟩
      by_cases h2 : 1048576 < 32 * (n : Int) + 16 * (R : Int) + 16 * (d.rn : Int)
      · go_wp2
        go_ret
        exact ⟨Or.inl rfl, rfl⟩
      go_wp2
      go_round
      case rel =>
        refine ⟨k + 1, by omega, by go_num, R + d.rn, ?_, by omega, ?_⟩
        · congr 1; omega
        · refine ⟨by rw [sumR_succ ds k hkl, HDK.out, ← HR.out.1], fun j h hj => ?_⟩
          by_cases e : j = k
          · subst e; rw [HDK.out]; omega
          · exact HR.out.2 j h (by omega)
      case measure => simp [intOf]; omega
    · obtain rfl : n = k := by omega
      go_wp2
      go_ret
      refine ⟨Or.inr ⟨rfl, by omega, by rw [← HR.out.1]; exact hR, fun d hd => ?_⟩, rfl⟩
      obtain ⟨j, hj, rfl⟩ := List.getElem_of_mem hd
      exact HR.out.2 j hj (by have := HS.out.1; omega)
end Go.Proofs.Qxb6613577a
