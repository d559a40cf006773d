/-
  No cell of these rows narrows 'for every input' (looked for: loops, veiled, ifaces, maps, wideKeys, modest, calm, conditions, laid).
  DERIVED. THE GIVEN ROWS OF THIS SEAT. 2 by the template 'for every input the law returns true; each argument reads behind the call as it read before'; 0 by the template 'total and deterministic' (their statements: Qxb6613577aTotals.lean).
  GIVEN WITH THE SEED: the statements are not yours to turn. If you find one false, say at which input.
  Laid BY PROGRAM, IN A SANDBOX (cutbox-rows.mjs): the forced cells as the released guide's own fill.sh prints them over the translation c33bd74782d045c1… (all of the seat's roots in one cut). By AI agents, Wed Nov 11 2026. No macro, syntax, notation, axiom, sorry.
-/
import Derived.Test.Qxb6613577aChecked
import GoSem.Claim
import GoSem.ClaimJoined
import GoSem.ClaimMapViews
import Derived.JoinedTies
import Derived.KernelRfl
namespace Go.Proofs.Qxb6613577a
/- THE CELL 'sum', in the pinned program and in every row, IS THE sha256 OF THE DUMP (.gsa) THAT Qxb6613577aProg.lean LOADS. Nothing in Lean hashes anything: it is a label: what it is worth is what the hold of that sum in a sandbox is worth. -/
noncomputable def Try.pinned : Pinned := { name := "qxb6613577a", sum := "c33bd74782d045c1e6667fda0c7bc8bdcab4e486d8e3e9f354b6ae3ffdae6182", checked := Try.checked }
namespace Rows
def none {H : Type} : Left H := { results := [], args := [] }

/-- 'zzlaws_internal_routing_b1.FnNewIndexesEveryDestination': WHATEVER THE INPUT: true; the input reads as it did. -/
def fnNewIndexesEveryDestinationSpec : ChangeSpec := { name := "fnNewIndexesEveryDestination", fn := fun _ => fun
  | [d1, d2, d3, d4] => { results := [.lit (.bool true)], args := [d1, d2, d3, d4] }
  | _ => none }
def fnNewIndexesEveryDestinationRow : OpenClaim := { program := "qxb6613577a", sum := "c33bd74782d045c1e6667fda0c7bc8bdcab4e486d8e3e9f354b6ae3ffdae6182", func := "example.com/wildpoint/wildpoint/zzlaws_internal_routing_b1.FnNewIndexesEveryDestination", spec := "fnNewIndexesEveryDestination", unfollowed := true, recurses := true, plainKeys := false, apart := false }
def FnNewIndexesEveryDestinationSaid : Prop := fnNewIndexesEveryDestinationRow.holds Try.pinned (OpenSpec.ofChange fnNewIndexesEveryDestinationSpec)

/-- ITS FALSE NEIGHBOUR: 'it returns false'. Refute it at one input. -/
def fnNewIndexesEveryDestinationWrong : ChangeSpec := { name := "fnNewIndexesEveryDestination", fn := fun _ => fun
  | [d1, d2, d3, d4] => { results := [.lit (.bool false)], args := [d1, d2, d3, d4] }
  | _ => none }
def FnNewIndexesEveryDestinationWrongFalsely : Prop := fnNewIndexesEveryDestinationRow.holds Try.pinned (OpenSpec.ofChange fnNewIndexesEveryDestinationWrong)

/-- 'zzlaws_internal_routing_b1.FnNewStartsWithEveryDestinationProhibited': WHATEVER THE INPUT: true; the input reads as it did. -/
def fnNewStartsWithEveryDestinationProhibitedSpec : ChangeSpec := { name := "fnNewStartsWithEveryDestinationProhibited", fn := fun _ => fun
  | [d1, d2] => { results := [.lit (.bool true)], args := [d1, d2] }
  | _ => none }
def fnNewStartsWithEveryDestinationProhibitedRow : OpenClaim := { program := "qxb6613577a", sum := "c33bd74782d045c1e6667fda0c7bc8bdcab4e486d8e3e9f354b6ae3ffdae6182", func := "example.com/wildpoint/wildpoint/zzlaws_internal_routing_b1.FnNewStartsWithEveryDestinationProhibited", spec := "fnNewStartsWithEveryDestinationProhibited", unfollowed := true, recurses := true, plainKeys := false, apart := false }
def FnNewStartsWithEveryDestinationProhibitedSaid : Prop := fnNewStartsWithEveryDestinationProhibitedRow.holds Try.pinned (OpenSpec.ofChange fnNewStartsWithEveryDestinationProhibitedSpec)

/-- ITS FALSE NEIGHBOUR: 'it returns false'. Refute it at one input. -/
def fnNewStartsWithEveryDestinationProhibitedWrong : ChangeSpec := { name := "fnNewStartsWithEveryDestinationProhibited", fn := fun _ => fun
  | [d1, d2] => { results := [.lit (.bool false)], args := [d1, d2] }
  | _ => none }
def FnNewStartsWithEveryDestinationProhibitedWrongFalsely : Prop := fnNewStartsWithEveryDestinationProhibitedRow.holds Try.pinned (OpenSpec.ofChange fnNewStartsWithEveryDestinationProhibitedWrong)

end Rows
end Go.Proofs.Qxb6613577a
