/-
  No cell of these rows narrows 'for every input' (looked for: loops, veiled, ifaces, maps, wideKeys, modest, calm, conditions, laid).
  DERIVED. THE GIVEN ROWS OF THIS SEAT. 2 by the template 'for every input the law returns true; each argument reads behind the call as it read before'; 0 by the template 'total and deterministic' (their statements: Qxb6608878aTotals.lean).
  GIVEN WITH THE SEED: the statements are not yours to turn. If you find one false, say at which input.
  Laid BY PROGRAM, IN A SANDBOX (cutbox-rows.mjs): the forced cells as the released guide's own fill.sh prints them over the translation 5eb844d494170907… (all of the seat's roots in one cut). By AI agents, Wed Nov 11 2026. No macro, syntax, notation, axiom, sorry.
-/
import Derived.Test.Qxb6608878aChecked
import GoSem.Claim
import GoSem.ClaimJoined
import GoSem.ClaimMapViews
import Derived.JoinedTies
import Derived.KernelRfl
namespace Go.Proofs.Qxb6608878a
/- THE CELL 'sum', in the pinned program and in every row, IS THE sha256 OF THE DUMP (.gsa) THAT Qxb6608878aProg.lean LOADS. Nothing in Lean hashes anything: it is a label: what it is worth is what the hold of that sum in a sandbox is worth. -/
noncomputable def Try.pinned : Pinned := { name := "qxb6608878a", sum := "5eb844d4941709072e374f3f8c23de1e8e188bc7277f6c0ac3e4619adfcc0a43", checked := Try.checked }
namespace Rows
def none {H : Type} : Left H := { results := [], args := [] }

/-- 'zzlaws_decision_b1.FnExpiryChain': WHATEVER THE INPUT: true; the input reads as it did. -/
def fnExpiryChainSpec : ChangeSpec := { name := "fnExpiryChain", fn := fun _ => fun
  | [d1, d2, d3] => { results := [.lit (.bool true)], args := [d1, d2, d3] }
  | _ => none }
def fnExpiryChainRow : OpenClaim := { program := "qxb6608878a", sum := "5eb844d4941709072e374f3f8c23de1e8e188bc7277f6c0ac3e4619adfcc0a43", func := "example.com/uks/uks/zzlaws_decision_b1.FnExpiryChain", spec := "fnExpiryChain", apart := false }
def FnExpiryChainSaid : Prop := fnExpiryChainRow.holds Try.pinned (OpenSpec.ofChange fnExpiryChainSpec)

/-- ITS FALSE NEIGHBOUR: 'it returns false'. Refute it at one input. -/
def fnExpiryChainWrong : ChangeSpec := { name := "fnExpiryChain", fn := fun _ => fun
  | [d1, d2, d3] => { results := [.lit (.bool false)], args := [d1, d2, d3] }
  | _ => none }
def FnExpiryChainWrongFalsely : Prop := fnExpiryChainRow.holds Try.pinned (OpenSpec.ofChange fnExpiryChainWrong)

/-- 'zzlaws_decision_b1.FnExpiryUndo': WHATEVER THE INPUT: true; the input reads as it did. -/
def fnExpiryUndoSpec : ChangeSpec := { name := "fnExpiryUndo", fn := fun _ => fun
  | [d1, d2] => { results := [.lit (.bool true)], args := [d1, d2] }
  | _ => none }
def fnExpiryUndoRow : OpenClaim := { program := "qxb6608878a", sum := "5eb844d4941709072e374f3f8c23de1e8e188bc7277f6c0ac3e4619adfcc0a43", func := "example.com/uks/uks/zzlaws_decision_b1.FnExpiryUndo", spec := "fnExpiryUndo", apart := false }
def FnExpiryUndoSaid : Prop := fnExpiryUndoRow.holds Try.pinned (OpenSpec.ofChange fnExpiryUndoSpec)

/-- ITS FALSE NEIGHBOUR: 'it returns false'. Refute it at one input. -/
def fnExpiryUndoWrong : ChangeSpec := { name := "fnExpiryUndo", fn := fun _ => fun
  | [d1, d2] => { results := [.lit (.bool false)], args := [d1, d2] }
  | _ => none }
def FnExpiryUndoWrongFalsely : Prop := fnExpiryUndoRow.holds Try.pinned (OpenSpec.ofChange fnExpiryUndoWrong)

end Rows
end Go.Proofs.Qxb6608878a
