import Derived.Test.Qxb6613577aMem
import Derived.Laws.Bits64b
import Derived.Laws.BitsAllLaws
namespace Go.Proofs.Qxb6613577a
open Go.RowKit
set_option linter.unusedVariables false

theorem or_key (kind pc : Int) (h1 : 0 ≤ kind) (h2 : kind ≤ 255) (h3 : 0 ≤ pc) (h4 : pc ≤ 4294967295) : bits .or .u64 (kind * 4294967296) pc = kind * 4294967296 + pc := by
  obtain ⟨a, rfl⟩ : ∃ a : Nat, kind = a := ⟨kind.toNat, by omega⟩
  obtain ⟨b, rfl⟩ : ∃ b : Nat, pc = b := ⟨pc.toNat, by omega⟩
  have h := bits_or_u64_nat (a * 4294967296) b (by omega) (by omega)
  have e : ((a * 4294967296 : Nat) : Int) = (a : Int) * 4294967296 := by rw [Int.natCast_mul]; rfl
  rw [e] at h
  rw [h]
  have e2 : a * 4294967296 ||| b = a * 4294967296 + b := by
    have := Nat.two_pow_add_eq_or_of_lt (i := 32) (b := b) (by omega) a
    rw [show (2 : Nat) ^ 32 = 4294967296 from rfl] at this
    rw [Nat.mul_comm a]
    exact this.symm
  rw [e2, Int.natCast_add, e]

/-- The first eight bits struck. -/
def clOf (pc : Int) : Int := bits .andNot .u32 pc 255
theorem clOf_range (pc : Int) (h3 : 0 ≤ pc) (h4 : pc ≤ 4294967295) : 0 ≤ clOf pc ∧ clOf pc ≤ 4294967295 := by
  unfold clOf
  rw [u32_andNot pc 255 h3 (by omega) (by omega) (by omega)]
  have : pc.toNat &&& (4294967295 - (255 : Int).toNat) ≤ pc.toNat := Nat.and_le_left
  omega

set_option maxHeartbeats 1000000 in
theorem key_any (kind pc : Int) (w : World) (h1 : 0 ≤ kind) (h2 : kind ≤ 255) (h3 : 0 ≤ pc) (h4 : pc ≤ 4294967295) :
    Calls Try.prog 23 #[.agg #[.int .u8 kind, .int .u32 pc]] w fun e w' => e = .returned (.int .u64 (kind * 4294967296 + pc)) ∧ w' = w.alloc (.cells #[.int .u8 kind, .int .u32 pc] 48) := by
  go_enter Try.func23, Try.ntmps23
  go_wp2
  go_ret
  refine ⟨?_, rfl⟩
  show Ending.returned (.int .u64 (bits .or .u64 (kind * 4294967296) pc)) = _
  rw [or_key kind pc h1 h2 h3 h4]

set_option maxHeartbeats 1000000 in
theorem entry_any (pc : Int) (w : World) (h3 : 0 ≤ pc) (h4 : pc ≤ 4294967295) :
    Calls Try.prog 24 #[.int .u32 pc, .int .u8 1] w fun e w' => e = .returned (.agg #[.int .u8 1, .int .u32 (clOf pc)]) ∧ w' = w.alloc (.cells #[.int .u8 1, .int .u32 (clOf pc)] 48) := by
  go_enter Try.func24, Try.ntmps24
  go_wp2
  refine bodyPost_ret (v := .agg #[.int .u8 1, .int .u32 (clOf pc)]) (by simp [results, Try.results24, go_sem, clOf]) rfl ⟨rfl, ?_⟩
  rfl
end Go.Proofs.Qxb6613577a
