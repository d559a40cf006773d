/-
  DERIVED. GIVEN WITH THE SEED: THE CARDS: each row of Qxb6608916aDoorRows.lean that lists a variable, with what it lists TIED to the program's text (the seventh form; the later family's looks); each row that meets fmt, with fmt's text TOLD by the authors' own Lean function (tested against real Go, not proved from fmt's source: count such statements apart). THE CARD IS WHAT COUNTS. Prove the row's statement (the work); the ties are given (Qxb6608916aDoorTie.lean); close each card by the builder's one call (the guide's Derived/Test/ToyasCard.lean, 'card_holds'). Laid BY PROGRAM, IN A SANDBOX (cutbox-door.mjs). By AI agents, Wed Nov 11 2026. No macro, syntax, notation, axiom, sorry.
-/
import Derived.Test.Qxb6608916aDoorRows
import GoSem.ClaimSeven
namespace Go.Proofs.Qxb6608916aDoor
namespace Rows

/-- THE TIED CARD OF 'zzlaws_internal_venue_b1.FnGasAppendShiftByWholeGas'. -/
def fnGasAppendShiftByWholeGasCard : Claim7 := { stood := { row := fnGasAppendShiftByWholeGasRow, standIns := [], harness := (true, "897686306de68bfda57a7694061365f117e8da752f2c78e008298bdae29e6473"), looks := false }, kinds := [], alts := [], laidByText := true, laidKinds := [.data, .data, .data], laidTests := true, laidLooks := .later }
def FnGasAppendShiftByWholeGasCardSaid : Prop := Claim7.holds Tryd.pinned (.plain (OpenSpec.ofChange fnGasAppendShiftByWholeGasSpec)) fnGasAppendShiftByWholeGasCard

/-- THE TIED CARD OF 'zzlaws_internal_venue_b1.FnGasAppendDependsOnValueAlone'. -/
def fnGasAppendDependsOnValueAloneCard : Claim7 := { stood := { row := fnGasAppendDependsOnValueAloneRow, standIns := [], harness := (true, "897686306de68bfda57a7694061365f117e8da752f2c78e008298bdae29e6473"), looks := false }, kinds := [], alts := [], laidByText := true, laidKinds := [.data, .data, .data], laidTests := true, laidLooks := .later }
def FnGasAppendDependsOnValueAloneCardSaid : Prop := Claim7.holds Tryd.pinned (.plain (OpenSpec.ofChange fnGasAppendDependsOnValueAloneSpec)) fnGasAppendDependsOnValueAloneCard
end Rows
end Go.Proofs.Qxb6608916aDoor
