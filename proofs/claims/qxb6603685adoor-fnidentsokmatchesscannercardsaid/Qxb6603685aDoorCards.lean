/-
  DERIVED. GIVEN WITH THE SEED: THE CARDS: each row of Qxb6603685aDoorRows.lean that lists a variable, with what it lists TIED to the program's text (the seventh form; the later family's looks); each row that meets fmt, with fmt's text TOLD by the authors' own Lean function (tested against real Go, not proved from fmt's source: count such statements apart). THE CARD IS WHAT COUNTS. Prove the row's statement (the work); the ties are given (Qxb6603685aDoorTie.lean); close each card by the builder's one call (the guide's Derived/Test/ToyasCard.lean, 'card_holds'). Laid BY PROGRAM, IN A SANDBOX (cutbox-door.mjs). By AI agents, Wed Nov 11 2026. No macro, syntax, notation, axiom, sorry.
-/
import Derived.Test.Qxb6603685aDoorRows
import GoSem.ClaimSeven
namespace Go.Proofs.Qxb6603685aDoor
namespace Rows

/-- THE TIED CARD OF 'zzlaws_pkg_module_b1.FnIdentsOKMatchesScanner'. -/
def fnIdentsOKMatchesScannerCard : Claim7 := { stood := { row := fnIdentsOKMatchesScannerRow, standIns := [], harness := (true, "152cb32e6c55297547e441aa0d2c52daeacc912861fbe6494eeec685df484207"), looks := false }, kinds := [], alts := [], laidByText := true, laidKinds := [.data, .pinned], laidTests := true, laidLooks := .later }
def FnIdentsOKMatchesScannerCardSaid : Prop := Claim7.holds Tryd.pinned (.plain (OpenSpec.ofChange fnIdentsOKMatchesScannerSpec)) fnIdentsOKMatchesScannerCard

/-- THE TIED CARD OF 'zzlaws_pkg_module_b1.FnParseVersionMatchesGrammar'. -/
def fnParseVersionMatchesGrammarCard : Claim7 := { stood := { row := fnParseVersionMatchesGrammarRow, standIns := [], harness := (true, "152cb32e6c55297547e441aa0d2c52daeacc912861fbe6494eeec685df484207"), looks := false }, kinds := [], alts := [], laidByText := true, laidKinds := [.data, .pinned], laidTests := true, laidLooks := .later }
def FnParseVersionMatchesGrammarCardSaid : Prop := Claim7.holds Tryd.pinned (.plain (OpenSpec.ofChange fnParseVersionMatchesGrammarSpec)) fnParseVersionMatchesGrammarCard
end Rows
end Go.Proofs.Qxb6603685aDoor
