/-
  NARROWER THAN 'FOR EVERY INPUT', by the rows' own cells (each row's printed sentence says how): LawS0360CScript: laid · LawS0360COne: laid.
  DERIVED. THE GIVEN ROWS OF THIS SEAT. 2 by the template 'for every input the law returns true; each argument reads behind the call as it read before'; 0 by the template 'total and deterministic' (their statements: YbulkgkwDoorTotals.lean).
  GIVEN WITH THE SEED: the statements are not yours to turn. If you find one false, say at which input.
  Laid BY PROGRAM, IN A SANDBOX (cutbox-rows.mjs): the forced cells as the released guide's own fill.sh prints them over the translation ecc1478307deca2b… (all of the seat's roots in one cut). By AI agents, Wed Nov 11 2026. No macro, syntax, notation, axiom, sorry.
-/
import Derived.Test.YbulkgkwDoorChecked
import GoSem.Claim
import GoSem.ClaimJoined
import GoSem.ClaimMapViews
import Derived.JoinedTies
import Derived.KernelRfl
namespace Go.Proofs.YbulkgkwDoor
/- THE CELL 'sum', in the pinned program and in every row, IS THE sha256 OF THE DUMP (.gsa) THAT YbulkgkwDoorProg.lean LOADS. Nothing in Lean hashes anything: it is a label: what it is worth is what the hold of that sum in a sandbox is worth. -/
noncomputable def Ybad.pinned : Pinned := { name := "ybulkgkwdoor", sum := "ecc1478307deca2b0159a48d28754c0b87bae7bdd67de044c3d04d0a172064fe", checked := Ybad.checked }
namespace Rows
def none {H : Type} : Left H := { results := [], args := [] }

/- WHAT THE LISTED PACKAGE-LEVEL VARIABLES READ AS WHEN THE CALL BEGINS. Each datum BY PROGRAM (the guide's laid-datum.mjs) off the statement by which the dump's own 'gosem.cut.vars' lays the variable. In a bare row this is a premise. The card (YbulkgkwDoorCards.lean) ties it to the program's text. -/
def laid_net_netip_z4 {H : Type} : DataW H := .agg [.ptr (.agg [.lit (.bool false), .lit (.string [])])]
def laid_net_netip_z0 {H : Type} : DataW H := .agg [.nil]

/-- 'transport.LawS0360CScript': WHATEVER THE INPUT: true; the input reads as it did. -/
def lawS0360CScriptSpec : ChangeSpec := { name := "lawS0360CScript", fn := fun _ => fun
  | [d] => { results := [.lit (.bool true)], args := [d] }
  | _ => none }
def lawS0360CScriptRow : OpenClaim := { program := "ybulkgkwdoor", sum := "ecc1478307deca2b0159a48d28754c0b87bae7bdd67de044c3d04d0a172064fe", func := "example.com/peerline/peerline/internal/transport.LawS0360CScript", spec := "lawS0360CScript", named := ["net/netip.z0", "net/netip.z4"], apart := false, laid := [("net/netip.z4", laid_net_netip_z4), ("net/netip.z0", laid_net_netip_z0)] }
def LawS0360CScriptSaid : Prop := lawS0360CScriptRow.holds Ybad.pinned (OpenSpec.ofChange lawS0360CScriptSpec)

/-- ITS FALSE NEIGHBOUR: 'it returns false'. Refute it at one input. -/
def lawS0360CScriptWrong : ChangeSpec := { name := "lawS0360CScript", fn := fun _ => fun
  | [d] => { results := [.lit (.bool false)], args := [d] }
  | _ => none }
def LawS0360CScriptWrongFalsely : Prop := lawS0360CScriptRow.holds Ybad.pinned (OpenSpec.ofChange lawS0360CScriptWrong)

/-- 'transport.LawS0360COne': WHATEVER THE INPUT: true; the input reads as it did. -/
def lawS0360COneSpec : ChangeSpec := { name := "lawS0360COne", fn := fun _ => fun
  | [d1, d2, d3, d4, d5, d6, d7, d8] => { results := [.lit (.bool true)], args := [d1, d2, d3, d4, d5, d6, d7, d8] }
  | _ => none }
def lawS0360COneRow : OpenClaim := { program := "ybulkgkwdoor", sum := "ecc1478307deca2b0159a48d28754c0b87bae7bdd67de044c3d04d0a172064fe", func := "example.com/peerline/peerline/internal/transport.LawS0360COne", spec := "lawS0360COne", named := ["net/netip.z0", "net/netip.z4"], apart := false, laid := [("net/netip.z4", laid_net_netip_z4), ("net/netip.z0", laid_net_netip_z0)] }
def LawS0360COneSaid : Prop := lawS0360COneRow.holds Ybad.pinned (OpenSpec.ofChange lawS0360COneSpec)

/-- ITS FALSE NEIGHBOUR: 'it returns false'. Refute it at one input. -/
def lawS0360COneWrong : ChangeSpec := { name := "lawS0360COne", fn := fun _ => fun
  | [d1, d2, d3, d4, d5, d6, d7, d8] => { results := [.lit (.bool false)], args := [d1, d2, d3, d4, d5, d6, d7, d8] }
  | _ => none }
def LawS0360COneWrongFalsely : Prop := lawS0360COneRow.holds Ybad.pinned (OpenSpec.ofChange lawS0360COneWrong)

end Rows
end Go.Proofs.YbulkgkwDoor
