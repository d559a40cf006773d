import Derived.Test.Qxb6613636aRows
import Derived.WalkKit
import Derived.WalkSpells
import Derived.WalkLawsBesides
import Derived.OwnWalk
import Derived.Laws.IdiomStrings
import Derived.Laws.BytesArg
import Derived.Lib.Hide
import Derived.Lib.BufferRead
import Derived.Laws.CopyOwn
import Derived.Lib.SliceRun
import Derived.RegionTactic
import Derived.Lib.ConvBytes
import Derived.Lib.Strings
namespace Go.Proofs.Qxb6613636a
open Go.RowKit
set_option linter.unusedVariables false

theorem min_lt (a b : Int) (w : World) (h : a < b) : Calls Try.prog 7 #[.int .i64 a, .int .i64 b] w fun e w' => e = .returned (.int .i64 a) ∧ w = w' := by
  go_enter Try.func7, Try.ntmps7
  go_wp2
  go_ret
  exact ⟨rfl, rfl⟩
theorem min_ge (a b : Int) (w : World) (h : ¬ a < b) : Calls Try.prog 7 #[.int .i64 a, .int .i64 b] w fun e w' => e = .returned (.int .i64 b) ∧ w = w' := by
  go_enter Try.func7, Try.ntmps7
  go_wp2
  go_ret
  exact ⟨rfl, rfl⟩

theorem min_is (a b m : Int) (w : World) (h : (a < b ∧ m = a) ∨ (¬ a < b ∧ m = b)) : Calls Try.prog 7 #[.int .i64 a, .int .i64 b] w fun e w' => e = .returned (.int .i64 m) ∧ w = w' := by
  rcases h with ⟨h, rfl⟩ | ⟨h, rfl⟩
  · exact min_lt _ _ _ h
  · exact min_ge _ _ _ h

theorem trunc_nil (w : World) : Calls Try.prog 6 #[.slice none 0 0] w fun e w' => e = .returned (.string ⟨([] : List UInt8).toArray⟩) ∧ w = w' := by
  have hcv := Lib.run_convert_nil_bytes (P := Try.prog) w 22 9 5 0 Try.underlying22 Try.underlying5 Try.underlying9
  go_enter Try.func6, Try.ntmps6
  go_wp2
  go_ret
  exact ⟨rfl, rfl⟩

theorem trunc_short (g off n cap : Nat) (l : List UInt8) (w : World) (hn : l.length = n) (hc : n ≤ cap) (h64 : n < 64) (hcell : ∀ j (hj : j < l.length), w.cell? ((⟨g, off, none⟩ : Addr).add j) = some (.int .u8 (l[j].toNat : Int))) :
    Calls Try.prog 6 #[.slice (some ⟨g, off, none⟩) n cap] w fun e w' => e = .returned (.string ⟨l.toArray⟩) ∧ w = w' := by
  subst hn
  have hcv := run_convert_bytes_back (P := Try.prog) w 22 9 5 ⟨g, off, none⟩ cap l Try.underlying22 Try.underlying5 Try.underlying9 hcell
  clear hcell
  go_enter Try.func6, Try.ntmps6
  go_wp2
  go_ret
  exact ⟨rfl, rfl⟩

theorem trunc_long (g off n cap : Nat) (l : List UInt8) (w : World) (hn : l.length = 64) (hc : n ≤ cap) (h64 : 64 ≤ n) (hb : n ≤ 1048576) (hcell : ∀ j (hj : j < l.length), w.cell? ((⟨g, off, none⟩ : Addr).add j) = some (.int .u8 (l[j].toNat : Int))) :
    Calls Try.prog 6 #[.slice (some ⟨g, off, none⟩) n cap] w fun e w' => e = .returned (.string ⟨l.toArray⟩) ∧ w = w' := by
  have hcv := run_convert_bytes_back (P := Try.prog) w 22 9 5 ⟨g, off, none⟩ cap l Try.underlying22 Try.underlying5 Try.underlying9 hcell
  rw [hn] at hcv
  clear hcell hn
  have hcap : 64 ≤ cap := by omega
  by_cases h : 64 < n
  · go_enter Try.func6, Try.ntmps6
    go_wp2
    · go_ret
      exact ⟨rfl, rfl⟩
  · obtain rfl : n = 64 := by omega
    go_enter Try.func6, Try.ntmps6
    go_wp2
    go_ret
    exact ⟨rfl, rfl⟩

/-- Where a slice of bytes lies: nil or empty, or a row whose cells hold l. -/
def Lies (w : World) (a : Option Addr) (n cap : Nat) (l : List UInt8) : Prop :=
  l.length = n ∧ n ≤ cap ∧ ((a = none ∧ n = 0 ∧ cap = 0) ∨ ∃ g off, a = some ⟨g, off, none⟩ ∧ ∀ j (hj : j < l.length), w.cell? ⟨g, off + j, none⟩ = some (.int .u8 (l[j].toNat : Int)))

/-- 'truncate': the first 64 bytes, as a string. -/
theorem trunc_any (a : Option Addr) (n cap : Nat) (l : List UInt8) (w : World) (h : Lies w a n cap l) (hb : n ≤ 1048576) :
    Calls Try.prog 6 #[.slice a n cap] w fun e w' => e = .returned (.string ⟨(l.take 64).toArray⟩) ∧ w = w' := by
  obtain ⟨hl, hc, ⟨rfl, rfl, rfl⟩ | ⟨g, off, rfl, hcell⟩⟩ := h
  · obtain rfl : l = [] := List.eq_nil_of_length_eq_zero hl
    exact trunc_nil w
  · by_cases h64 : n < 64
    · rw [List.take_of_length_le (by omega)]
      exact trunc_short g off n cap l w hl hc h64 (fun j hj => by rw [Addr.add_lit]; exact hcell j hj)
    · refine trunc_long g off n cap (l.take 64) w (by simp; omega) hc (by omega) hb (fun j hj => ?_)
      have hj' : j < l.length := by simp at hj; omega
      rw [Addr.add_lit, hcell j hj', List.getElem_take]

theorem trunc_str (A : ByteArray) (a : Option Addr) (n cap : Nat) (l : List UInt8) (w : World) (h : Lies w a n cap l) (hb : n ≤ 1048576) (hA : (⟨(l.take 64).toArray⟩ : ByteArray) = A) :
    Calls Try.prog 6 #[.slice a n cap] w fun e w' => e = .returned (.string A) ∧ w = w' := by
  subst hA; exact trunc_any a n cap l w h hb

theorem infoByte : (Try.prog.info? 5).map (fun i => (i.zero, i.size, i.bytes)) = some (some (.int .u8 0), 1, 1) := by kernel_rfl

/-- The cells of a row of bytes. -/
def bcells (l : List UInt8) : List Value := l.map fun b => .int .u8 (b.toNat : Int)

/-- A row that a copy has filled reads as the bytes. -/
theorem cells_of_row {w : World} {g : Nat} {l : List UInt8} {t : TypeId} (h : w.heap[g]? = some (.cells (bcells l).toArray t (0, 0))) : ∀ j (hj : j < l.length), w.cell? ⟨g, j, none⟩ = some (.int .u8 (l[j].toNat : Int)) := by
  intro j hj
  simp [World.cell?, h, bcells, hj]

theorem bcells_len (l : List UInt8) : (bcells l).length = l.length := by simp [bcells]
theorem bcells_one (l : List UInt8) : ∀ v ∈ bcells l, v.oneCell' = true := by
  intro v hv
  simp only [bcells, List.mem_map] at hv
  obtain ⟨b, -, rfl⟩ := hv
  rfl
theorem bcells_src {w : World} {x : Addr} {l : List UInt8} (h : ∀ j (hj : j < l.length), w.cell? (x.add j) = some (.int .u8 (l[j].toNat : Int))) : ∀ j v, (bcells l)[j]? = some v → w.cell? (x.add j) = some v := by
  intro j v hj
  have hl : j < l.length := by have := (List.getElem?_eq_some_iff.1 hj).1; simpa [bcells] using this
  rw [h j hl]
  simp [bcells, hl] at hj
  rw [hj]

theorem ba_ext {a b : ByteArray} (h : a.data.toList = b.data.toList) : a = b := by
  obtain ⟨⟨a⟩⟩ := a
  obtain ⟨⟨b⟩⟩ := b
  simp at h
  rw [h]

/-- The head of the truncated text is the truncated head. -/
theorem trunc_prefix (l : List UInt8) (k m : Nat) (hm : m = min k 64) : (⟨((l.take k).take 64).toArray⟩ : ByteArray) = (⟨(l.take 64).toArray⟩ : ByteArray).extract 0 m := by
  apply ba_ext
  rw [Lib.extract_data]
  subst hm
  show (l.take k).take 64 = ((l.take 64).drop 0).take (min k 64 - 0)
  rw [List.drop_zero, List.take_take, List.take_take]
  congr 1
  omega

/-- The bytes of a string that is not longer than 64, truncated: the string. -/
theorem trunc_self (A : ByteArray) (h : A.size ≤ 64) : (⟨(A.data.toList.take 64).toArray⟩ : ByteArray) = A := by
  apply ba_ext
  have h2 : A.data.toList.length ≤ 64 := by rw [Array.length_toList]; exact h
  show A.data.toList.take 64 = A.data.toList
  exact List.take_of_length_le h2

theorem lies_bytes (w : World) (A : ByteArray) : Lies (Lib.bytesWorld w 5 A) (some ⟨w.heap.size, 0, none⟩) A.size (grownCap w A.size 0 5) A.data.toList := by
  refine ⟨Array.length_toList, grownCap_ge _ _ _ _, Or.inr ⟨w.heap.size, 0, rfl, fun j hj => ?_⟩⟩
  have hj' : j < A.size := by rw [Array.length_toList] at hj; exact hj
  rw [Nat.zero_add, Lib.bytesWorld_cell w 5 A j hj', List.getD, List.getElem?_eq_getElem hj]
  rfl
end Go.Proofs.Qxb6613636a
