/-
  DERIVED. GIVEN WITH THE SEED: THE CARDS: each row of Qxb6605818aFmtRows.lean that lists a variable, with what it lists TIED to the program's text (the seventh form; the later family's looks); each row that meets fmt, with fmt's text TOLD by the authors' own Lean function (tested against real Go, not proved from fmt's source: count such statements apart). THE CARD IS WHAT COUNTS. Prove the row's statement (the work); the ties are given (Qxb6605818aFmtTie.lean); close each card by the builder's one call (the guide's Derived/Test/ToyasCard.lean, 'card_holds'). Laid BY PROGRAM, IN A SANDBOX (cutbox-door.mjs). By AI agents, Wed Nov 11 2026. No macro, syntax, notation, axiom, sorry.
-/
import Derived.Test.Qxb6605818aFmtRows
import GoSem.ClaimSeven
namespace Go.Proofs.Qxb6605818aFmt
namespace Rows

/-- THE TOLD CARD OF 'zzlaws_pkg_definition_b1.FnTargetToItsTwin'. -/
def fnTargetToItsTwinCard : Claim7 := { stood := { row := fnTargetToItsTwinRow, standIns := [], harness := (true, "5bee56145a0e8b0dbcba3f365c258905c0d656a5d7292fcc346b0b20f924d9ec"), looks := false }, told := true, goes := false }
def FnTargetToItsTwinToldSaid : Prop := Claim7.holds Tryf.pinned (.plain (OpenSpec.ofChange fnTargetToItsTwinSpec)) fnTargetToItsTwinCard
/-- ITS FALSE NEIGHBOUR. Refute it at one input. -/
def FnTargetToItsTwinToldWrongFalsely : Prop := Claim7.holds Tryf.pinned (.plain (OpenSpec.ofChange fnTargetToItsTwinWrong)) fnTargetToItsTwinCard
end Rows
end Go.Proofs.Qxb6605818aFmt
