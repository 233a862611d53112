/-
  No cell of these rows narrows 'for every input' (looked for: loops, veiled, ifaces, maps, wideKeys, modest, calm, conditions, laid).
  DERIVED. THE GIVEN ROWS OF THIS SEAT. 2 by the template 'for every input the law returns true; each argument reads behind the call as it read before'; 0 by the template 'total and deterministic' (their statements: YbulkglyTotals.lean).
  GIVEN WITH THE SEED: the statements are not yours to turn. If you find one false, say at which input.
  Laid BY PROGRAM, IN A SANDBOX (cutbox-rows.mjs): the forced cells as the released guide's own fill.sh prints them over the translation 86d25ce61c683023… (all of the seat's roots in one cut). By AI agents, Wed Nov 11 2026. No macro, syntax, notation, axiom, sorry.
-/
import Derived.Test.YbulkglyChecked
import GoSem.Claim
import GoSem.ClaimJoined
import GoSem.ClaimMapViews
import Derived.JoinedTies
import Derived.KernelRfl
namespace Go.Proofs.Ybulkgly
/- THE CELL 'sum', in the pinned program and in every row, IS THE sha256 OF THE DUMP (.gsa) THAT YbulkglyProg.lean LOADS. Nothing in Lean hashes anything: it is a label: what it is worth is what the hold of that sum in a sandbox is worth. -/
noncomputable def Yba.pinned : Pinned := { name := "ybulkgly", sum := "86d25ce61c6830239eb3d405162ed99f6fac7b1fd282ac7e94e3ca637f260cde", checked := Yba.checked }
namespace Rows
def none {H : Type} : Left H := { results := [], args := [] }

/-- 'causeline.LawS0362CSums': WHATEVER THE INPUT: true; the input reads as it did. -/
def lawS0362CSumsSpec : ChangeSpec := { name := "lawS0362CSums", fn := fun _ => fun
  | [d] => { results := [.lit (.bool true)], args := [d] }
  | _ => none }
def lawS0362CSumsRow : OpenClaim := { program := "ybulkgly", sum := "86d25ce61c6830239eb3d405162ed99f6fac7b1fd282ac7e94e3ca637f260cde", func := "example.com/causeline/causeline.LawS0362CSums", spec := "lawS0362CSums", apart := false }
def LawS0362CSumsSaid : Prop := lawS0362CSumsRow.holds Yba.pinned (OpenSpec.ofChange lawS0362CSumsSpec)

/-- ITS FALSE NEIGHBOUR: 'it returns false'. Refute it at one input. -/
def lawS0362CSumsWrong : ChangeSpec := { name := "lawS0362CSums", fn := fun _ => fun
  | [d] => { results := [.lit (.bool false)], args := [d] }
  | _ => none }
def LawS0362CSumsWrongFalsely : Prop := lawS0362CSumsRow.holds Yba.pinned (OpenSpec.ofChange lawS0362CSumsWrong)

/-- 'causeline.LawS0362CChains': WHATEVER THE INPUT: true; the input reads as it did. -/
def lawS0362CChainsSpec : ChangeSpec := { name := "lawS0362CChains", fn := fun _ => fun
  | [d] => { results := [.lit (.bool true)], args := [d] }
  | _ => none }
def lawS0362CChainsRow : OpenClaim := { program := "ybulkgly", sum := "86d25ce61c6830239eb3d405162ed99f6fac7b1fd282ac7e94e3ca637f260cde", func := "example.com/causeline/causeline.LawS0362CChains", spec := "lawS0362CChains", apart := false }
def LawS0362CChainsSaid : Prop := lawS0362CChainsRow.holds Yba.pinned (OpenSpec.ofChange lawS0362CChainsSpec)

/-- ITS FALSE NEIGHBOUR: 'it returns false'. Refute it at one input. -/
def lawS0362CChainsWrong : ChangeSpec := { name := "lawS0362CChains", fn := fun _ => fun
  | [d] => { results := [.lit (.bool false)], args := [d] }
  | _ => none }
def LawS0362CChainsWrongFalsely : Prop := lawS0362CChainsRow.holds Yba.pinned (OpenSpec.ofChange lawS0362CChainsWrong)

end Rows
end Go.Proofs.Ybulkgly
