/-
  No cell of these rows narrows 'for every input' (looked for: loops, veiled, ifaces, maps, wideKeys, modest, calm, conditions, laid).
  DERIVED. THE GIVEN ROWS OF THIS SEAT. 2 by the template 'for every input the law returns true; each argument reads behind the call as it read before'; 0 by the template 'total and deterministic' (their statements: Qxb6605852aTotals.lean).
  GIVEN WITH THE SEED: the statements are not yours to turn. If you find one false, say at which input.
  Laid BY PROGRAM, IN A SANDBOX (cutbox-rows.mjs): the forced cells as the released guide's own fill.sh prints them over the translation f8f7cd13e32878ac… (all of the seat's roots in one cut). By AI agents, Wed Nov 11 2026. No macro, syntax, notation, axiom, sorry.
-/
import Derived.Test.Qxb6605852aChecked
import GoSem.Claim
import GoSem.ClaimJoined
import GoSem.ClaimMapViews
import Derived.JoinedTies
import Derived.KernelRfl
namespace Go.Proofs.Qxb6605852a
/- THE CELL 'sum', in the pinned program and in every row, IS THE sha256 OF THE DUMP (.gsa) THAT Qxb6605852aProg.lean LOADS. Nothing in Lean hashes anything: it is a label: what it is worth is what the hold of that sum in a sandbox is worth. -/
noncomputable def Try.pinned : Pinned := { name := "qxb6605852a", sum := "f8f7cd13e32878acb6106008731b269a0ff05034b2c018622e9368ca958d2d80", checked := Try.checked }
namespace Rows
def none {H : Type} : Left H := { results := [], args := [] }

/-- 'zzlaws_root_b1.FnRowSetHoldsExactly': WHATEVER THE INPUT: true; the input reads as it did. -/
def fnRowSetHoldsExactlySpec : ChangeSpec := { name := "fnRowSetHoldsExactly", fn := fun _ => fun
  | [d1, d2, d3, d4, d5] => { results := [.lit (.bool true)], args := [d1, d2, d3, d4, d5] }
  | _ => none }
def fnRowSetHoldsExactlyRow : OpenClaim := { program := "qxb6605852a", sum := "f8f7cd13e32878acb6106008731b269a0ff05034b2c018622e9368ca958d2d80", func := "example.com/coarsen/coarsen/zzlaws_root_b1.FnRowSetHoldsExactly", spec := "fnRowSetHoldsExactly", unfollowed := true, recurses := true, apart := false }
def FnRowSetHoldsExactlySaid : Prop := fnRowSetHoldsExactlyRow.holds Try.pinned (OpenSpec.ofChange fnRowSetHoldsExactlySpec)

/-- ITS FALSE NEIGHBOUR: 'it returns false'. Refute it at one input. -/
def fnRowSetHoldsExactlyWrong : ChangeSpec := { name := "fnRowSetHoldsExactly", fn := fun _ => fun
  | [d1, d2, d3, d4, d5] => { results := [.lit (.bool false)], args := [d1, d2, d3, d4, d5] }
  | _ => none }
def FnRowSetHoldsExactlyWrongFalsely : Prop := fnRowSetHoldsExactlyRow.holds Try.pinned (OpenSpec.ofChange fnRowSetHoldsExactlyWrong)

/-- 'zzlaws_root_b1.FnRowSetKeepsRunsWellFormed': WHATEVER THE INPUT: true; the input reads as it did. -/
def fnRowSetKeepsRunsWellFormedSpec : ChangeSpec := { name := "fnRowSetKeepsRunsWellFormed", fn := fun _ => fun
  | [d1, d2] => { results := [.lit (.bool true)], args := [d1, d2] }
  | _ => none }
def fnRowSetKeepsRunsWellFormedRow : OpenClaim := { program := "qxb6605852a", sum := "f8f7cd13e32878acb6106008731b269a0ff05034b2c018622e9368ca958d2d80", func := "example.com/coarsen/coarsen/zzlaws_root_b1.FnRowSetKeepsRunsWellFormed", spec := "fnRowSetKeepsRunsWellFormed", unfollowed := true, recurses := true, apart := false }
def FnRowSetKeepsRunsWellFormedSaid : Prop := fnRowSetKeepsRunsWellFormedRow.holds Try.pinned (OpenSpec.ofChange fnRowSetKeepsRunsWellFormedSpec)

/-- ITS FALSE NEIGHBOUR: 'it returns false'. Refute it at one input. -/
def fnRowSetKeepsRunsWellFormedWrong : ChangeSpec := { name := "fnRowSetKeepsRunsWellFormed", fn := fun _ => fun
  | [d1, d2] => { results := [.lit (.bool false)], args := [d1, d2] }
  | _ => none }
def FnRowSetKeepsRunsWellFormedWrongFalsely : Prop := fnRowSetKeepsRunsWellFormedRow.holds Try.pinned (OpenSpec.ofChange fnRowSetKeepsRunsWellFormedWrong)

end Rows
end Go.Proofs.Qxb6605852a
