/-
  No cell of these rows narrows 'for every input' (looked for: loops, veiled, ifaces, maps, wideKeys, modest, calm, conditions, laid).
  DERIVED. THE GIVEN ROWS OF THIS SEAT. 2 by the template 'for every input the law returns true; each argument reads behind the call as it read before'; 0 by the template 'total and deterministic' (their statements: Qxb6613636aTotals.lean).
  GIVEN WITH THE SEED: the statements are not yours to turn. If you find one false, say at which input.
  Laid BY PROGRAM, IN A SANDBOX (cutbox-rows.mjs): the forced cells as the released guide's own fill.sh prints them over the translation 179814c0fa9a66a8… (all of the seat's roots in one cut). By AI agents, Wed Nov 11 2026. No macro, syntax, notation, axiom, sorry.
-/
import Derived.Test.Qxb6613636aChecked
import GoSem.Claim
import GoSem.ClaimJoined
import GoSem.ClaimMapViews
import Derived.JoinedTies
import Derived.KernelRfl
namespace Go.Proofs.Qxb6613636a
/- THE CELL 'sum', in the pinned program and in every row, IS THE sha256 OF THE DUMP (.gsa) THAT Qxb6613636aProg.lean LOADS. Nothing in Lean hashes anything: it is a label: what it is worth is what the hold of that sum in a sandbox is worth. -/
noncomputable def Try.pinned : Pinned := { name := "qxb6613636a", sum := "179814c0fa9a66a8c42bc726a559207395997200e334a3f30faeb7d0ec3ef755", checked := Try.checked }
namespace Rows
def none {H : Type} : Left H := { results := [], args := [] }

/-- 'zzlaws_internal_http1_b1.FnTruncateOfJoin': WHATEVER THE INPUT: true; the input reads as it did. -/
def fnTruncateOfJoinSpec : ChangeSpec := { name := "fnTruncateOfJoin", fn := fun _ => fun
  | [d1, d2] => { results := [.lit (.bool true)], args := [d1, d2] }
  | _ => none }
def fnTruncateOfJoinRow : OpenClaim := { program := "qxb6613636a", sum := "179814c0fa9a66a8c42bc726a559207395997200e334a3f30faeb7d0ec3ef755", func := "example.com/sizeloom/sizeloom/zzlaws_internal_http1_b1.FnTruncateOfJoin", spec := "fnTruncateOfJoin", apart := false }
def FnTruncateOfJoinSaid : Prop := fnTruncateOfJoinRow.holds Try.pinned (OpenSpec.ofChange fnTruncateOfJoinSpec)

/-- ITS FALSE NEIGHBOUR: 'it returns false'. Refute it at one input. -/
def fnTruncateOfJoinWrong : ChangeSpec := { name := "fnTruncateOfJoin", fn := fun _ => fun
  | [d1, d2] => { results := [.lit (.bool false)], args := [d1, d2] }
  | _ => none }
def FnTruncateOfJoinWrongFalsely : Prop := fnTruncateOfJoinRow.holds Try.pinned (OpenSpec.ofChange fnTruncateOfJoinWrong)

/-- 'zzlaws_internal_http1_b1.FnTruncatePrefixesAndIdempotent': WHATEVER THE INPUT: true; the input reads as it did. -/
def fnTruncatePrefixesAndIdempotentSpec : ChangeSpec := { name := "fnTruncatePrefixesAndIdempotent", fn := fun _ => fun
  | [d] => { results := [.lit (.bool true)], args := [d] }
  | _ => none }
def fnTruncatePrefixesAndIdempotentRow : OpenClaim := { program := "qxb6613636a", sum := "179814c0fa9a66a8c42bc726a559207395997200e334a3f30faeb7d0ec3ef755", func := "example.com/sizeloom/sizeloom/zzlaws_internal_http1_b1.FnTruncatePrefixesAndIdempotent", spec := "fnTruncatePrefixesAndIdempotent", apart := false }
def FnTruncatePrefixesAndIdempotentSaid : Prop := fnTruncatePrefixesAndIdempotentRow.holds Try.pinned (OpenSpec.ofChange fnTruncatePrefixesAndIdempotentSpec)

/-- ITS FALSE NEIGHBOUR: 'it returns false'. Refute it at one input. -/
def fnTruncatePrefixesAndIdempotentWrong : ChangeSpec := { name := "fnTruncatePrefixesAndIdempotent", fn := fun _ => fun
  | [d] => { results := [.lit (.bool false)], args := [d] }
  | _ => none }
def FnTruncatePrefixesAndIdempotentWrongFalsely : Prop := fnTruncatePrefixesAndIdempotentRow.holds Try.pinned (OpenSpec.ofChange fnTruncatePrefixesAndIdempotentWrong)

end Rows
end Go.Proofs.Qxb6613636a
