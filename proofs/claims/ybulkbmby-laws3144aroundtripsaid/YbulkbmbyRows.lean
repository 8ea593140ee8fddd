/-
  No cell of these rows narrows 'for every input' (looked for: loops, veiled, ifaces, maps, wideKeys, modest, calm, conditions, laid).
  DERIVED. THE GIVEN ROWS OF THIS SEAT. 2 by the template 'for every input the law returns true; each argument reads behind the call as it read before'; 0 by the template 'total and deterministic' (their statements: YbulkbmbyTotals.lean).
  GIVEN WITH THE SEED: the statements are not yours to turn. If you find one false, say at which input.
  Laid BY PROGRAM, IN A SANDBOX (cutbox-rows.mjs): the forced cells as the released guide's own fill.sh prints them over the translation 0418ed9c163e14c9… (all of the seat's roots in one cut). By AI agents, Wed Nov 11 2026. No macro, syntax, notation, axiom, sorry.
-/
import Derived.Test.YbulkbmbyChecked
import GoSem.Claim
import GoSem.ClaimJoined
import GoSem.ClaimMapViews
import Derived.JoinedTies
import Derived.KernelRfl
namespace Go.Proofs.Ybulkbmby
/- THE CELL 'sum', in the pinned program and in every row, IS THE sha256 OF THE DUMP (.gsa) THAT YbulkbmbyProg.lean LOADS. Nothing in Lean hashes anything: it is a label: what it is worth is what the hold of that sum in a sandbox is worth. -/
noncomputable def Yba.pinned : Pinned := { name := "ybulkbmby", sum := "0418ed9c163e14c970895b37ff3dde53e823bb7f0e860a480ef8e88587304828", checked := Yba.checked }
namespace Rows
def none {H : Type} : Left H := { results := [], args := [] }

/-- 'poltext.LawS3144AModel': WHATEVER THE INPUT: true; the input reads as it did. -/
def lawS3144AModelSpec : ChangeSpec := { name := "lawS3144AModel", fn := fun _ => fun
  | [d] => { results := [.lit (.bool true)], args := [d] }
  | _ => none }
def lawS3144AModelRow : OpenClaim := { program := "ybulkbmby", sum := "0418ed9c163e14c970895b37ff3dde53e823bb7f0e860a480ef8e88587304828", func := "example.com/hive-to-text/hive-to-text/poltext.LawS3144AModel", spec := "lawS3144AModel", apart := false }
def LawS3144AModelSaid : Prop := lawS3144AModelRow.holds Yba.pinned (OpenSpec.ofChange lawS3144AModelSpec)

/-- ITS FALSE NEIGHBOUR: 'it returns false'. Refute it at one input. -/
def lawS3144AModelWrong : ChangeSpec := { name := "lawS3144AModel", fn := fun _ => fun
  | [d] => { results := [.lit (.bool false)], args := [d] }
  | _ => none }
def LawS3144AModelWrongFalsely : Prop := lawS3144AModelRow.holds Yba.pinned (OpenSpec.ofChange lawS3144AModelWrong)

/-- 'poltext.LawS3144ARoundTrip': WHATEVER THE INPUT: true; the input reads as it did. -/
def lawS3144ARoundTripSpec : ChangeSpec := { name := "lawS3144ARoundTrip", fn := fun _ => fun
  | [d1, d2, d3] => { results := [.lit (.bool true)], args := [d1, d2, d3] }
  | _ => none }
def lawS3144ARoundTripRow : OpenClaim := { program := "ybulkbmby", sum := "0418ed9c163e14c970895b37ff3dde53e823bb7f0e860a480ef8e88587304828", func := "example.com/hive-to-text/hive-to-text/poltext.LawS3144ARoundTrip", spec := "lawS3144ARoundTrip", apart := false }
def LawS3144ARoundTripSaid : Prop := lawS3144ARoundTripRow.holds Yba.pinned (OpenSpec.ofChange lawS3144ARoundTripSpec)

/-- ITS FALSE NEIGHBOUR: 'it returns false'. Refute it at one input. -/
def lawS3144ARoundTripWrong : ChangeSpec := { name := "lawS3144ARoundTrip", fn := fun _ => fun
  | [d1, d2, d3] => { results := [.lit (.bool false)], args := [d1, d2, d3] }
  | _ => none }
def LawS3144ARoundTripWrongFalsely : Prop := lawS3144ARoundTripRow.holds Yba.pinned (OpenSpec.ofChange lawS3144ARoundTripWrong)

end Rows
end Go.Proofs.Ybulkbmby
