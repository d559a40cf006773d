import Derived.Test.Qxb6613636aTrunc
import Derived.OpenShut
namespace Go.Proofs.Qxb6613636a
open Go.RowKit
set_option linter.unusedVariables false

/-- A row of numbers that fit a byte, as bytes. -/
theorem row_bytes {w : World} {x : Addr} {len : Nat} {zs : List Int} (hl : len ≤ zs.length) (hc : ∀ i, i < zs.length → w.cell? (x.add i) = some (.int .u8 (zs.getD i 0))) (hw : ∀ n ∈ zs, (Lit.int .u8 n).wf = true) :
    ∃ l : List UInt8, l.length = len ∧ ∀ j (hj : j < l.length), w.cell? (x.add j) = some (.int .u8 (l[j].toNat : Int)) := by
  refine ⟨(zs.take len).map fun z => UInt8.ofNat z.toNat, by simp; omega, fun j hj => ?_⟩
  have hj' : j < zs.length := by simp at hj; omega
  rw [hc j hj']
  have hb := bounds_u8 (hw zs[j] (List.getElem_mem hj'))
  have e : zs.getD j 0 = zs[j] := by simp [List.getD, hj']
  rw [e, List.getElem_map, List.getElem_take]
  congr 2
  simp
  omega
end Go.Proofs.Qxb6613636a
