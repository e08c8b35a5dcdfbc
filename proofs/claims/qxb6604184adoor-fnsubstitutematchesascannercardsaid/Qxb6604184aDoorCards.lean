/-
  DERIVED. GIVEN WITH THE SEED: THE CARDS: each row of Qxb6604184aDoorRows.lean that lists a variable, with what it lists TIED to the program's text (the seventh form; the later family's looks); each row that meets fmt, with fmt's text TOLD by the authors' own Lean function (tested against real Go, not proved from fmt's source: count such statements apart). THE CARD IS WHAT COUNTS. Prove the row's statement (the work); the ties are given (Qxb6604184aDoorTie.lean); close each card by the builder's one call (the guide's Derived/Test/ToyasCard.lean, 'card_holds'). Laid BY PROGRAM, IN A SANDBOX (cutbox-door.mjs). By AI agents, Wed Nov 11 2026. No macro, syntax, notation, axiom, sorry.
-/
import Derived.Test.Qxb6604184aDoorRows
import GoSem.ClaimSeven
namespace Go.Proofs.Qxb6604184aDoor
namespace Rows

/-- THE TIED CARD OF 'zzlaws_internal_reach_b1.FnSubstituteMatchesAScanner'. -/
def fnSubstituteMatchesAScannerCard : Claim7 := { stood := { row := fnSubstituteMatchesAScannerRow, standIns := [], harness := (true, "acead0eaf52ed04c765b0e241ebc3ea41d48f77bad2a403f2e735de64fc11370"), looks := true }, kinds := [], alts := [], laidByText := true, laidKinds := [.data, .data, .data, .data, .sentinel, .sentinel, .pinned], laidTests := true, laidLooks := .later }
def FnSubstituteMatchesAScannerCardSaid : Prop := Claim7.holds Tryd.pinned (.plain (OpenSpec.ofChange fnSubstituteMatchesAScannerSpec)) fnSubstituteMatchesAScannerCard
end Rows
end Go.Proofs.Qxb6604184aDoor
