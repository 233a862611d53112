/-
  No cell of these rows narrows 'for every input' (looked for: loops, veiled, ifaces, maps, wideKeys, modest, calm, conditions, laid).
  DERIVED. THE GIVEN ROWS OF THIS SEAT. 1 by the template 'for every input the law returns true; each argument reads behind the call as it read before'; 0 by the template 'total and deterministic' (their statements: YbulkgvcTotals.lean).
  GIVEN WITH THE SEED: the statements are not yours to turn. If you find one false, say at which input.
  Laid BY PROGRAM, IN A SANDBOX (cutbox-rows.mjs): the forced cells as the released guide's own fill.sh prints them over the translation e527e526ab5f3ca7… (all of the seat's roots in one cut). By AI agents, Wed Nov 11 2026. No macro, syntax, notation, axiom, sorry.
-/
import Derived.Test.YbulkgvcChecked
import GoSem.Claim
import GoSem.ClaimJoined
import GoSem.ClaimMapViews
import Derived.JoinedTies
import Derived.KernelRfl
namespace Go.Proofs.Ybulkgvc
/- THE CELL 'sum', in the pinned program and in every row, IS THE sha256 OF THE DUMP (.gsa) THAT YbulkgvcProg.lean LOADS. Nothing in Lean hashes anything: it is a label: what it is worth is what the hold of that sum in a sandbox is worth. -/
noncomputable def Yba.pinned : Pinned := { name := "ybulkgvc", sum := "e527e526ab5f3ca7c2c8c1f0de71a4b85597af08dc8abbbe93a1c5f3b46eae76", checked := Yba.checked }
namespace Rows
def none {H : Type} : Left H := { results := [], args := [] }

/-- 'pages.LawS0379AUnlinkScript': WHATEVER THE INPUT: true; the input reads as it did. -/
def lawS0379AUnlinkScriptSpec : ChangeSpec := { name := "lawS0379AUnlinkScript", fn := fun _ => fun
  | [d1, d2, d3] => { results := [.lit (.bool true)], args := [d1, d2, d3] }
  | _ => none }
def lawS0379AUnlinkScriptRow : OpenClaim := { program := "ybulkgvc", sum := "e527e526ab5f3ca7c2c8c1f0de71a4b85597af08dc8abbbe93a1c5f3b46eae76", func := "example.com/crosstide/crosstide/internal/pages.LawS0379AUnlinkScript", spec := "lawS0379AUnlinkScript", plainKeys := false, apart := false }
def LawS0379AUnlinkScriptSaid : Prop := lawS0379AUnlinkScriptRow.holds Yba.pinned (OpenSpec.ofChange lawS0379AUnlinkScriptSpec)

/-- ITS FALSE NEIGHBOUR: 'it returns false'. Refute it at one input. -/
def lawS0379AUnlinkScriptWrong : ChangeSpec := { name := "lawS0379AUnlinkScript", fn := fun _ => fun
  | [d1, d2, d3] => { results := [.lit (.bool false)], args := [d1, d2, d3] }
  | _ => none }
def LawS0379AUnlinkScriptWrongFalsely : Prop := lawS0379AUnlinkScriptRow.holds Yba.pinned (OpenSpec.ofChange lawS0379AUnlinkScriptWrong)

end Rows
end Go.Proofs.Ybulkgvc
