/-
  No cell of these rows narrows 'for every input' (looked for: loops, veiled, ifaces, maps, wideKeys, modest, calm, conditions, laid).
  DERIVED. THE GIVEN ROWS OF THIS SEAT. 4 by the template 'for every input the law returns true; each argument reads behind the call as it read before'; 0 by the template 'total and deterministic' (their statements: YbulkgnoTotals.lean).
  GIVEN WITH THE SEED: the statements are not yours to turn. If you find one false, say at which input.
  Laid BY PROGRAM, IN A SANDBOX (cutbox-rows.mjs): the forced cells as the released guide's own fill.sh prints them over the translation 387edfaf0af1691c… (all of the seat's roots in one cut). By AI agents, Wed Nov 11 2026. No macro, syntax, notation, axiom, sorry.
-/
import Derived.Test.YbulkgnoChecked
import GoSem.Claim
import GoSem.ClaimJoined
import GoSem.ClaimMapViews
import Derived.JoinedTies
import Derived.KernelRfl
namespace Go.Proofs.Ybulkgno
/- THE CELL 'sum', in the pinned program and in every row, IS THE sha256 OF THE DUMP (.gsa) THAT YbulkgnoProg.lean LOADS. Nothing in Lean hashes anything: it is a label: what it is worth is what the hold of that sum in a sandbox is worth. -/
noncomputable def Yba.pinned : Pinned := { name := "ybulkgno", sum := "387edfaf0af1691cd169ec1da6fde8f5fd5e4f0c01e6a9562fbc5c5e7f2bd241", checked := Yba.checked }
namespace Rows
def none {H : Type} : Left H := { results := [], args := [] }

/-- 'lexrung.LawS0365BAdmit': WHATEVER THE INPUT: true; the input reads as it did. -/
def lawS0365BAdmitSpec : ChangeSpec := { name := "lawS0365BAdmit", fn := fun _ => fun
  | [d1, d2, d3, d4, d5, d6] => { results := [.lit (.bool true)], args := [d1, d2, d3, d4, d5, d6] }
  | _ => none }
def lawS0365BAdmitRow : OpenClaim := { program := "ybulkgno", sum := "387edfaf0af1691cd169ec1da6fde8f5fd5e4f0c01e6a9562fbc5c5e7f2bd241", func := "example.com/lexrung/lexrung.LawS0365BAdmit", spec := "lawS0365BAdmit", inPlace := ["slices.overlaps[example.com/lexrung/lexrung.Ref]"], unfollowed := true, recurses := true, plainKeys := false, apart := false }
def LawS0365BAdmitSaid : Prop := lawS0365BAdmitRow.holds Yba.pinned (OpenSpec.ofChange lawS0365BAdmitSpec)

/-- ITS FALSE NEIGHBOUR: 'it returns false'. Refute it at one input. -/
def lawS0365BAdmitWrong : ChangeSpec := { name := "lawS0365BAdmit", fn := fun _ => fun
  | [d1, d2, d3, d4, d5, d6] => { results := [.lit (.bool false)], args := [d1, d2, d3, d4, d5, d6] }
  | _ => none }
def LawS0365BAdmitWrongFalsely : Prop := lawS0365BAdmitRow.holds Yba.pinned (OpenSpec.ofChange lawS0365BAdmitWrong)

/-- 'lexrung.LawS0365CExact': WHATEVER THE INPUT: true; the input reads as it did. -/
def lawS0365CExactSpec : ChangeSpec := { name := "lawS0365CExact", fn := fun _ => fun
  | [d] => { results := [.lit (.bool true)], args := [d] }
  | _ => none }
def lawS0365CExactRow : OpenClaim := { program := "ybulkgno", sum := "387edfaf0af1691cd169ec1da6fde8f5fd5e4f0c01e6a9562fbc5c5e7f2bd241", func := "example.com/lexrung/lexrung.LawS0365CExact", spec := "lawS0365CExact", plainKeys := false, apart := false }
def LawS0365CExactSaid : Prop := lawS0365CExactRow.holds Yba.pinned (OpenSpec.ofChange lawS0365CExactSpec)

/-- ITS FALSE NEIGHBOUR: 'it returns false'. Refute it at one input. -/
def lawS0365CExactWrong : ChangeSpec := { name := "lawS0365CExact", fn := fun _ => fun
  | [d] => { results := [.lit (.bool false)], args := [d] }
  | _ => none }
def LawS0365CExactWrongFalsely : Prop := lawS0365CExactRow.holds Yba.pinned (OpenSpec.ofChange lawS0365CExactWrong)

/-- 'lexrung.LawS0365CRoundTrip': WHATEVER THE INPUT: true; the input reads as it did. -/
def lawS0365CRoundTripSpec : ChangeSpec := { name := "lawS0365CRoundTrip", fn := fun _ => fun
  | [d] => { results := [.lit (.bool true)], args := [d] }
  | _ => none }
def lawS0365CRoundTripRow : OpenClaim := { program := "ybulkgno", sum := "387edfaf0af1691cd169ec1da6fde8f5fd5e4f0c01e6a9562fbc5c5e7f2bd241", func := "example.com/lexrung/lexrung.LawS0365CRoundTrip", spec := "lawS0365CRoundTrip", plainKeys := false, apart := false }
def LawS0365CRoundTripSaid : Prop := lawS0365CRoundTripRow.holds Yba.pinned (OpenSpec.ofChange lawS0365CRoundTripSpec)

/-- ITS FALSE NEIGHBOUR: 'it returns false'. Refute it at one input. -/
def lawS0365CRoundTripWrong : ChangeSpec := { name := "lawS0365CRoundTrip", fn := fun _ => fun
  | [d] => { results := [.lit (.bool false)], args := [d] }
  | _ => none }
def LawS0365CRoundTripWrongFalsely : Prop := lawS0365CRoundTripRow.holds Yba.pinned (OpenSpec.ofChange lawS0365CRoundTripWrong)

/-- 'lexrung.LawS0365CNamed': WHATEVER THE INPUT: true; the input reads as it did. -/
def lawS0365CNamedSpec : ChangeSpec := { name := "lawS0365CNamed", fn := fun _ => fun
  | [d] => { results := [.lit (.bool true)], args := [d] }
  | _ => none }
def lawS0365CNamedRow : OpenClaim := { program := "ybulkgno", sum := "387edfaf0af1691cd169ec1da6fde8f5fd5e4f0c01e6a9562fbc5c5e7f2bd241", func := "example.com/lexrung/lexrung.LawS0365CNamed", spec := "lawS0365CNamed", plainKeys := false, apart := false }
def LawS0365CNamedSaid : Prop := lawS0365CNamedRow.holds Yba.pinned (OpenSpec.ofChange lawS0365CNamedSpec)

/-- ITS FALSE NEIGHBOUR: 'it returns false'. Refute it at one input. -/
def lawS0365CNamedWrong : ChangeSpec := { name := "lawS0365CNamed", fn := fun _ => fun
  | [d] => { results := [.lit (.bool false)], args := [d] }
  | _ => none }
def LawS0365CNamedWrongFalsely : Prop := lawS0365CNamedRow.holds Yba.pinned (OpenSpec.ofChange lawS0365CNamedWrong)

end Rows
end Go.Proofs.Ybulkgno
