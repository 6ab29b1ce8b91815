/-
  DERIVED. GIVEN WITH THE SEED: THE CARDS: each row of Qxb6605919aDoorRows.lean that lists a variable, with what it lists TIED to the program's text (the seventh form; the later family's looks); each row that meets fmt, with fmt's text TOLD by the authors' own Lean function (tested against real Go, not proved from fmt's source: count such statements apart). THE CARD IS WHAT COUNTS. Prove the row's statement (the work); the ties are given (Qxb6605919aDoorTie.lean); close each card by the builder's one call (the guide's Derived/Test/ToyasCard.lean, 'card_holds'). Laid BY PROGRAM, IN A SANDBOX (cutbox-door.mjs). By AI agents, Wed Nov 11 2026. No macro, syntax, notation, axiom, sorry.
-/
import Derived.Test.Qxb6605919aDoorRows
import GoSem.ClaimSeven
namespace Go.Proofs.Qxb6605919aDoor
namespace Rows

/-- THE TIED CARD OF 'zzlaws_root_b1.FnRunCountStringReadsBack'. -/
def fnRunCountStringReadsBackCard : Claim7 := { stood := { row := fnRunCountStringReadsBackRow, standIns := [], harness := (true, "e7f891d601b1c97167c62ef26326f8ff68499d94951dfb6546c4b0e412d37b46"), looks := false }, kinds := [], alts := [], laidByText := true, laidKinds := [.data, .data, .data], laidTests := true, laidLooks := .later }
def FnRunCountStringReadsBackCardSaid : Prop := Claim7.holds Tryd.pinned (.plain (OpenSpec.ofChange fnRunCountStringReadsBackSpec)) fnRunCountStringReadsBackCard

/-- THE TIED CARD OF 'zzlaws_root_b1.FnRunCountStringOrdersAsNumbers'. -/
def fnRunCountStringOrdersAsNumbersCard : Claim7 := { stood := { row := fnRunCountStringOrdersAsNumbersRow, standIns := [], harness := (true, "e7f891d601b1c97167c62ef26326f8ff68499d94951dfb6546c4b0e412d37b46"), looks := false }, kinds := [], alts := [], laidByText := true, laidKinds := [.data, .data, .data], laidTests := true, laidLooks := .later }
def FnRunCountStringOrdersAsNumbersCardSaid : Prop := Claim7.holds Tryd.pinned (.plain (OpenSpec.ofChange fnRunCountStringOrdersAsNumbersSpec)) fnRunCountStringOrdersAsNumbersCard
end Rows
end Go.Proofs.Qxb6605919aDoor
