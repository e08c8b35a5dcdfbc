/-
  DERIVED. GIVEN WITH THE SEED: THE CARDS: each row of Qxb6603950aDoorRows.lean that lists a variable, with what it lists TIED to the program's text (the seventh form; the later family's looks); each row that meets fmt, with fmt's text TOLD by the authors' own Lean function (tested against real Go, not proved from fmt's source: count such statements apart). THE CARD IS WHAT COUNTS. Prove the row's statement (the work); the ties are given (Qxb6603950aDoorTie.lean); close each card by the builder's one call (the guide's Derived/Test/ToyasCard.lean, 'card_holds'). Laid BY PROGRAM, IN A SANDBOX (cutbox-door.mjs). By AI agents, Wed Nov 11 2026. No macro, syntax, notation, axiom, sorry.
-/
import Derived.Test.Qxb6603950aDoorRows
import GoSem.ClaimSeven
namespace Go.Proofs.Qxb6603950aDoor
namespace Rows

/-- THE TIED CARD OF 'zzlaws_internal_sip_b1.FnTokenHasNoQuotingOrSpaces'. -/
def fnTokenHasNoQuotingOrSpacesCard : Claim7 := { stood := { row := fnTokenHasNoQuotingOrSpacesRow, standIns := [], harness := (true, "b3f9adcab30fb53e11fb32eb05b4eb2ef8a127d00694c0ae52fef1ec54d132ad"), looks := false }, kinds := [], alts := [], laidByText := true, laidKinds := [.data, .listed, .data, .pinned], laidTests := true, laidLooks := .later }
def FnTokenHasNoQuotingOrSpacesCardSaid : Prop := Claim7.holds Tryd.pinned (.plain (OpenSpec.ofChange fnTokenHasNoQuotingOrSpacesSpec)) fnTokenHasNoQuotingOrSpacesCard

/-- THE TIED CARD OF 'zzlaws_internal_sip_b1.FnSplitOutsideMatchesModel'. -/
def fnSplitOutsideMatchesModelCard : Claim7 := { stood := { row := fnSplitOutsideMatchesModelRow, standIns := [], harness := (true, "b3f9adcab30fb53e11fb32eb05b4eb2ef8a127d00694c0ae52fef1ec54d132ad"), looks := false }, kinds := [], alts := [], laidByText := true, laidKinds := [.data, .listed, .data, .pinned], laidTests := true, laidLooks := .later }
def FnSplitOutsideMatchesModelCardSaid : Prop := Claim7.holds Tryd.pinned (.plain (OpenSpec.ofChange fnSplitOutsideMatchesModelSpec)) fnSplitOutsideMatchesModelCard

/-- THE TIED CARD OF 'zzlaws_internal_sip_b1.FnSplitOutsideAtFirstSeparator'. -/
def fnSplitOutsideAtFirstSeparatorCard : Claim7 := { stood := { row := fnSplitOutsideAtFirstSeparatorRow, standIns := [], harness := (true, "b3f9adcab30fb53e11fb32eb05b4eb2ef8a127d00694c0ae52fef1ec54d132ad"), looks := false }, kinds := [], alts := [], laidByText := true, laidKinds := [.data, .listed, .data, .pinned], laidTests := true, laidLooks := .later }
def FnSplitOutsideAtFirstSeparatorCardSaid : Prop := Claim7.holds Tryd.pinned (.plain (OpenSpec.ofChange fnSplitOutsideAtFirstSeparatorSpec)) fnSplitOutsideAtFirstSeparatorCard
end Rows
end Go.Proofs.Qxb6603950aDoor
