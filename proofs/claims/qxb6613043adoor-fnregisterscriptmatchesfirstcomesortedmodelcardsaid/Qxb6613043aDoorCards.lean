/-
  DERIVED. GIVEN WITH THE SEED: THE CARDS: each row of Qxb6613043aDoorRows.lean that lists a variable, with what it lists TIED to the program's text (the seventh form; the later family's looks); each row that meets fmt, with fmt's text TOLD by the authors' own Lean function (tested against real Go, not proved from fmt's source: count such statements apart). THE CARD IS WHAT COUNTS. Prove the row's statement (the work); the ties are given (Qxb6613043aDoorTie.lean); close each card by the builder's one call (the guide's Derived/Test/ToyasCard.lean, 'card_holds'). Laid BY PROGRAM, IN A SANDBOX (cutbox-door.mjs). By AI agents, Wed Nov 11 2026. No macro, syntax, notation, axiom, sorry.
-/
import Derived.Test.Qxb6613043aDoorRows
import GoSem.ClaimSeven
namespace Go.Proofs.Qxb6613043aDoor
namespace Rows

/-- THE TIED CARD OF 'zzlaws_root_b1.FnRegisterScriptMatchesFirstComeSortedModel'. -/
def fnRegisterScriptMatchesFirstComeSortedModelCard : Claim7 := { stood := { row := fnRegisterScriptMatchesFirstComeSortedModelRow, standIns := [], harness := (true, "6c3686178a60ee23faafceb9ef1c044408f65e4f07362eecb51d792041450604"), looks := false }, kinds := [], alts := [], laidByText := true, laidKinds := [.sentinel, .sentinel], laidTests := true, laidLooks := .later }
def FnRegisterScriptMatchesFirstComeSortedModelCardSaid : Prop := Claim7.holds Tryd.pinned (.plain (OpenSpec.ofChange fnRegisterScriptMatchesFirstComeSortedModelSpec)) fnRegisterScriptMatchesFirstComeSortedModelCard

/-- THE TIED CARD OF 'zzlaws_root_b1.FnRegisterOrderFreeAscendingDistinct'. -/
def fnRegisterOrderFreeAscendingDistinctCard : Claim7 := { stood := { row := fnRegisterOrderFreeAscendingDistinctRow, standIns := [], harness := (true, "6c3686178a60ee23faafceb9ef1c044408f65e4f07362eecb51d792041450604"), looks := false }, kinds := [], alts := [], laidByText := true, laidKinds := [.sentinel, .sentinel], laidTests := true, laidLooks := .later }
def FnRegisterOrderFreeAscendingDistinctCardSaid : Prop := Claim7.holds Tryd.pinned (.plain (OpenSpec.ofChange fnRegisterOrderFreeAscendingDistinctSpec)) fnRegisterOrderFreeAscendingDistinctCard
end Rows
end Go.Proofs.Qxb6613043aDoor
