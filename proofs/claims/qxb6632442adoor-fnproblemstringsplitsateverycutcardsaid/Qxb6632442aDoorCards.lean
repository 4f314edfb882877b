/-
  DERIVED. GIVEN WITH THE SEED: THE CARDS: each row of Qxb6632442aDoorRows.lean that lists a variable, with what it lists TIED to the program's text (the seventh form; the later family's looks); each row that meets fmt, with fmt's text TOLD by the authors' own Lean function (tested against real Go, not proved from fmt's source: count such statements apart). THE CARD IS WHAT COUNTS. Prove the row's statement (the work); the ties are given (Qxb6632442aDoorTie.lean); close each card by the builder's one call (the guide's Derived/Test/ToyasCard.lean, 'card_holds'). Laid BY PROGRAM, IN A SANDBOX (cutbox-door.mjs). By AI agents, Wed Nov 11 2026. No macro, syntax, notation, axiom, sorry.
-/
import Derived.Test.Qxb6632442aDoorRows
import GoSem.ClaimSeven
namespace Go.Proofs.Qxb6632442aDoor
namespace Rows

/-- THE TIED CARD OF 'zzlaws_hierarchy_b1.FnProblemStringDecodesBackExactly'. -/
def fnProblemStringDecodesBackExactlyCard : Claim7 := { stood := { row := fnProblemStringDecodesBackExactlyRow, standIns := [], harness := (true, "165daff9b5dbfc878762c65984ae89c33e14f86575d556d0681b915f6d67f556"), looks := false }, kinds := [], alts := [], laidByText := true, laidKinds := [.data, .data, .data], laidTests := true, laidLooks := .later }
def FnProblemStringDecodesBackExactlyCardSaid : Prop := Claim7.holds Tryd.pinned (.plain (OpenSpec.ofChange fnProblemStringDecodesBackExactlySpec)) fnProblemStringDecodesBackExactlyCard

/-- THE TIED CARD OF 'zzlaws_hierarchy_b1.FnProblemStringSplitsAtEveryCut'. -/
def fnProblemStringSplitsAtEveryCutCard : Claim7 := { stood := { row := fnProblemStringSplitsAtEveryCutRow, standIns := [], harness := (true, "165daff9b5dbfc878762c65984ae89c33e14f86575d556d0681b915f6d67f556"), looks := false }, kinds := [], alts := [], laidByText := true, laidKinds := [.data, .data, .data], laidTests := true, laidLooks := .later }
def FnProblemStringSplitsAtEveryCutCardSaid : Prop := Claim7.holds Tryd.pinned (.plain (OpenSpec.ofChange fnProblemStringSplitsAtEveryCutSpec)) fnProblemStringSplitsAtEveryCutCard
end Rows
end Go.Proofs.Qxb6632442aDoor
