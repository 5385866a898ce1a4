/-
  DERIVED. GIVEN WITH THE SEED: THE CARDS: each row of Qxb6616307aDoorRows.lean that lists a variable, with what it lists TIED to the program's text (the seventh form; the later family's looks); each row that meets fmt, with fmt's text TOLD by the authors' own Lean function (tested against real Go, not proved from fmt's source: count such statements apart). THE CARD IS WHAT COUNTS. Prove the row's statement (the work); the ties are given (Qxb6616307aDoorTie.lean); close each card by the builder's one call (the guide's Derived/Test/ToyasCard.lean, 'card_holds'). Laid BY PROGRAM, IN A SANDBOX (cutbox-door.mjs). By AI agents, Wed Nov 11 2026. No macro, syntax, notation, axiom, sorry.
-/
import Derived.Test.Qxb6616307aDoorRows
import GoSem.ClaimSeven
namespace Go.Proofs.Qxb6616307aDoor
namespace Rows

/-- THE TIED CARD OF 'zzlaws_internal_config_b1.FnBoolWantNamesExactlyWhatTheFileTakes'. -/
def fnBoolWantNamesExactlyWhatTheFileTakesCard : Claim7 := { stood := { row := fnBoolWantNamesExactlyWhatTheFileTakesRow, standIns := [], harness := (true, "6fb81448993aa459575caccfa3326962ef42b100ec0aabe0df9ba6a550e94924"), looks := true }, kinds := [], alts := [], laidByText := true, laidKinds := [.data, .data, .data, .sentinel, .sentinel], laidTests := true, laidLooks := .later }
def FnBoolWantNamesExactlyWhatTheFileTakesCardSaid : Prop := Claim7.holds Tryd.pinned (.plain (OpenSpec.ofChange fnBoolWantNamesExactlyWhatTheFileTakesSpec)) fnBoolWantNamesExactlyWhatTheFileTakesCard

/-- THE TIED CARD OF 'zzlaws_internal_config_b1.FnBoolShownValueIsAWordOfWantAndReadsBack'. -/
def fnBoolShownValueIsAWordOfWantAndReadsBackCard : Claim7 := { stood := { row := fnBoolShownValueIsAWordOfWantAndReadsBackRow, standIns := [], harness := (true, "6fb81448993aa459575caccfa3326962ef42b100ec0aabe0df9ba6a550e94924"), looks := true }, kinds := [], alts := [], laidByText := true, laidKinds := [.data, .data, .data, .sentinel, .sentinel], laidTests := true, laidLooks := .later }
def FnBoolShownValueIsAWordOfWantAndReadsBackCardSaid : Prop := Claim7.holds Tryd.pinned (.plain (OpenSpec.ofChange fnBoolShownValueIsAWordOfWantAndReadsBackSpec)) fnBoolShownValueIsAWordOfWantAndReadsBackCard
end Rows
end Go.Proofs.Qxb6616307aDoor
