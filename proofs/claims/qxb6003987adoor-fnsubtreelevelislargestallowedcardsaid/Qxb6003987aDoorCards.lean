/-
  DERIVED. GIVEN WITH THE SEED: THE CARDS: each row of Qxb6003987aDoorRows.lean that lists a variable, with what it lists TIED to the program's text (the seventh form; the later family's looks); each row that meets fmt, with fmt's text TOLD by the authors' own Lean function (tested against real Go, not proved from fmt's source: count such statements apart). THE CARD IS WHAT COUNTS. Prove the row's statement (the work); the ties are given (Qxb6003987aDoorTie.lean); close each card by the builder's one call (the guide's Derived/Test/ToyasCard.lean, 'card_holds'). Laid BY PROGRAM, IN A SANDBOX (cutbox-door.mjs). By AI agents, Wed Nov 11 2026. No macro, syntax, notation, axiom, sorry.
-/
import Derived.Test.Qxb6003987aDoorRows
import GoSem.ClaimSeven
namespace Go.Proofs.Qxb6003987aDoor
namespace Rows

/-- THE TIED CARD OF 'zzlaws_root_g2.FnSubtreeLevelIsLargestAllowed'. -/
def fnSubtreeLevelIsLargestAllowedCard : Claim7 := { stood := { row := fnSubtreeLevelIsLargestAllowedRow, standIns := [], harness := (true, "0bfd3076b1593a09cb4e616d0f6a2afd8dd6816d3da013b83b8cc719a0922b74"), looks := false }, kinds := [], alts := [], laidByText := true, laidKinds := [.data], laidTests := true, laidLooks := .later }
def FnSubtreeLevelIsLargestAllowedCardSaid : Prop := Claim7.holds Tryd.pinned (.plain (OpenSpec.ofChange fnSubtreeLevelIsLargestAllowedSpec)) fnSubtreeLevelIsLargestAllowedCard
end Rows
end Go.Proofs.Qxb6003987aDoor
