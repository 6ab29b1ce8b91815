/-
  No cell of these rows narrows 'for every input' (looked for: loops, veiled, ifaces, maps, wideKeys, modest, calm, conditions, laid).
  DERIVED. THE GIVEN ROWS OF THIS SEAT. 1 by the template 'for every input the law returns true; each argument reads behind the call as it read before'; 0 by the template 'total and deterministic' (their statements: Qxb6605818aFmtTotals.lean).
  GIVEN WITH THE SEED: the statements are not yours to turn. If you find one false, say at which input.
  Laid BY PROGRAM, IN A SANDBOX (cutbox-rows.mjs): the forced cells as the released guide's own fill.sh prints them over the translation 5b0e879193140725… (all of the seat's roots in one cut). By AI agents, Wed Nov 11 2026. No macro, syntax, notation, axiom, sorry.
-/
import Derived.Test.Qxb6605818aFmtChecked
import GoSem.Claim
import GoSem.ClaimJoined
import GoSem.ClaimMapViews
import Derived.JoinedTies
import Derived.KernelRfl
namespace Go.Proofs.Qxb6605818aFmt
/- THE CELL 'sum', in the pinned program and in every row, IS THE sha256 OF THE DUMP (.gsa) THAT Qxb6605818aFmtProg.lean LOADS. Nothing in Lean hashes anything: it is a label: what it is worth is what the hold of that sum in a sandbox is worth. -/
noncomputable def Tryf.pinned : Pinned := { name := "qxb6605818afmt", sum := "5b0e879193140725a5653a6bff8767c02e27abf4989d1afe814b8aa361b19010", checked := Tryf.checked }
namespace Rows
def none {H : Type} : Left H := { results := [], args := [] }

/-- 'zzlaws_pkg_definition_b1.FnTargetToItsTwin': WHATEVER THE INPUT: true; the input reads as it did. -/
def fnTargetToItsTwinSpec : ChangeSpec := { name := "fnTargetToItsTwin", fn := fun _ => fun
  | [d1, d2, d3, d4, d5, d6] => { results := [.lit (.bool true)], args := [d1, d2, d3, d4, d5, d6] }
  | _ => none }
def fnTargetToItsTwinRow : OpenClaim := { program := "qxb6605818afmt", sum := "5b0e879193140725a5653a6bff8767c02e27abf4989d1afe814b8aa361b19010", func := "example.com/concordat/concordat/zzlaws_pkg_definition_b1.FnTargetToItsTwin", spec := "fnTargetToItsTwin", stops := ["fmt.errorf"], inPlace := ["internal/abi.NoEscape", "internal/bytealg.MakeNoZero", "fmt.errorf"], unfollowed := true, recurses := true, plainKeys := false, apart := false }
/-- NO THEOREM (fmt's text is open here; it may be false): for the released tool's asking of the row's closed facts alone. THE STATEMENT IS 'FnTargetToItsTwinToldSaid' (Qxb6605818aFmtCards.lean). -/
def FnTargetToItsTwinFormAsk : Prop := fnTargetToItsTwinRow.holds Tryf.pinned (OpenSpec.ofChange fnTargetToItsTwinSpec)

/-- ITS FALSE NEIGHBOUR: 'it returns false'. Refute it at one input. -/
def fnTargetToItsTwinWrong : ChangeSpec := { name := "fnTargetToItsTwin", fn := fun _ => fun
  | [d1, d2, d3, d4, d5, d6] => { results := [.lit (.bool false)], args := [d1, d2, d3, d4, d5, d6] }
  | _ => none }
def FnTargetToItsTwinWrongFormAsk : Prop := fnTargetToItsTwinRow.holds Tryf.pinned (OpenSpec.ofChange fnTargetToItsTwinWrong)

end Rows
end Go.Proofs.Qxb6605818aFmt
