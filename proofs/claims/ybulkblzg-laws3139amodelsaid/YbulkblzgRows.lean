/-
  No cell of these rows narrows 'for every input' (looked for: loops, veiled, ifaces, maps, wideKeys, modest, calm, conditions, laid).
  DERIVED. THE GIVEN ROWS OF THIS SEAT. 4 by the template 'for every input the law returns true; each argument reads behind the call as it read before'; 0 by the template 'total and deterministic' (their statements: YbulkblzgTotals.lean).
  GIVEN WITH THE SEED: the statements are not yours to turn. If you find one false, say at which input.
  Laid BY PROGRAM, IN A SANDBOX (cutbox-rows.mjs): the forced cells as the released guide's own fill.sh prints them over the translation 01a361a64d8be01b… (all of the seat's roots in one cut). By AI agents, Wed Nov 11 2026. No macro, syntax, notation, axiom, sorry.
-/
import Derived.Test.YbulkblzgChecked
import GoSem.Claim
import GoSem.ClaimJoined
import GoSem.ClaimMapViews
import Derived.JoinedTies
import Derived.KernelRfl
namespace Go.Proofs.Ybulkblzg
/- THE CELL 'sum', in the pinned program and in every row, IS THE sha256 OF THE DUMP (.gsa) THAT YbulkblzgProg.lean LOADS. Nothing in Lean hashes anything: it is a label: what it is worth is what the hold of that sum in a sandbox is worth. -/
noncomputable def Yba.pinned : Pinned := { name := "ybulkblzg", sum := "01a361a64d8be01bdab1b9b92f5b0d99c847d18f40385be18d26fdeabcf179d0", checked := Yba.checked }
namespace Rows
def none {H : Type} : Left H := { results := [], args := [] }

/-- 'interleave.LawS3139AModel': WHATEVER THE INPUT: true; the input reads as it did. -/
def lawS3139AModelSpec : ChangeSpec := { name := "lawS3139AModel", fn := fun _ => fun
  | [d1, d2, d3, d4] => { results := [.lit (.bool true)], args := [d1, d2, d3, d4] }
  | _ => none }
def lawS3139AModelRow : OpenClaim := { program := "ybulkblzg", sum := "01a361a64d8be01bdab1b9b92f5b0d99c847d18f40385be18d26fdeabcf179d0", func := "example.com/interleave/interleave.LawS3139AModel", spec := "lawS3139AModel", inPlace := ["internal/reflectlite.ValueOf", "internal/reflectlite.Swapper", "(internal/reflectlite.Value).Len"], unfollowed := true, recurses := true, apart := false }
def LawS3139AModelSaid : Prop := lawS3139AModelRow.holds Yba.pinned (OpenSpec.ofChange lawS3139AModelSpec)

/-- ITS FALSE NEIGHBOUR: 'it returns false'. Refute it at one input. -/
def lawS3139AModelWrong : ChangeSpec := { name := "lawS3139AModel", fn := fun _ => fun
  | [d1, d2, d3, d4] => { results := [.lit (.bool false)], args := [d1, d2, d3, d4] }
  | _ => none }
def LawS3139AModelWrongFalsely : Prop := lawS3139AModelRow.holds Yba.pinned (OpenSpec.ofChange lawS3139AModelWrong)

/-- 'interleave.LawS3139AHits': WHATEVER THE INPUT: true; the input reads as it did. -/
def lawS3139AHitsSpec : ChangeSpec := { name := "lawS3139AHits", fn := fun _ => fun
  | [d1, d2] => { results := [.lit (.bool true)], args := [d1, d2] }
  | _ => none }
def lawS3139AHitsRow : OpenClaim := { program := "ybulkblzg", sum := "01a361a64d8be01bdab1b9b92f5b0d99c847d18f40385be18d26fdeabcf179d0", func := "example.com/interleave/interleave.LawS3139AHits", spec := "lawS3139AHits", inPlace := ["internal/reflectlite.ValueOf", "internal/reflectlite.Swapper", "(internal/reflectlite.Value).Len"], unfollowed := true, recurses := true, apart := false }
def LawS3139AHitsSaid : Prop := lawS3139AHitsRow.holds Yba.pinned (OpenSpec.ofChange lawS3139AHitsSpec)

/-- ITS FALSE NEIGHBOUR: 'it returns false'. Refute it at one input. -/
def lawS3139AHitsWrong : ChangeSpec := { name := "lawS3139AHits", fn := fun _ => fun
  | [d1, d2] => { results := [.lit (.bool false)], args := [d1, d2] }
  | _ => none }
def LawS3139AHitsWrongFalsely : Prop := lawS3139AHitsRow.holds Yba.pinned (OpenSpec.ofChange lawS3139AHitsWrong)

/-- 'interleave.LawS3139BComponents': WHATEVER THE INPUT: true; the input reads as it did. -/
def lawS3139BComponentsSpec : ChangeSpec := { name := "lawS3139BComponents", fn := fun _ => fun
  | [d1, d2] => { results := [.lit (.bool true)], args := [d1, d2] }
  | _ => none }
def lawS3139BComponentsRow : OpenClaim := { program := "ybulkblzg", sum := "01a361a64d8be01bdab1b9b92f5b0d99c847d18f40385be18d26fdeabcf179d0", func := "example.com/interleave/interleave.LawS3139BComponents", spec := "lawS3139BComponents", unfollowed := true, recurses := true, apart := false }
def LawS3139BComponentsSaid : Prop := lawS3139BComponentsRow.holds Yba.pinned (OpenSpec.ofChange lawS3139BComponentsSpec)

/-- ITS FALSE NEIGHBOUR: 'it returns false'. Refute it at one input. -/
def lawS3139BComponentsWrong : ChangeSpec := { name := "lawS3139BComponents", fn := fun _ => fun
  | [d1, d2] => { results := [.lit (.bool false)], args := [d1, d2] }
  | _ => none }
def LawS3139BComponentsWrongFalsely : Prop := lawS3139BComponentsRow.holds Yba.pinned (OpenSpec.ofChange lawS3139BComponentsWrong)

/-- 'interleave.LawS3139BStops': WHATEVER THE INPUT: true; the input reads as it did. -/
def lawS3139BStopsSpec : ChangeSpec := { name := "lawS3139BStops", fn := fun _ => fun
  | [d1, d2, d3] => { results := [.lit (.bool true)], args := [d1, d2, d3] }
  | _ => none }
def lawS3139BStopsRow : OpenClaim := { program := "ybulkblzg", sum := "01a361a64d8be01bdab1b9b92f5b0d99c847d18f40385be18d26fdeabcf179d0", func := "example.com/interleave/interleave.LawS3139BStops", spec := "lawS3139BStops", unfollowed := true, recurses := true, apart := false }
def LawS3139BStopsSaid : Prop := lawS3139BStopsRow.holds Yba.pinned (OpenSpec.ofChange lawS3139BStopsSpec)

/-- ITS FALSE NEIGHBOUR: 'it returns false'. Refute it at one input. -/
def lawS3139BStopsWrong : ChangeSpec := { name := "lawS3139BStops", fn := fun _ => fun
  | [d1, d2, d3] => { results := [.lit (.bool false)], args := [d1, d2, d3] }
  | _ => none }
def LawS3139BStopsWrongFalsely : Prop := lawS3139BStopsRow.holds Yba.pinned (OpenSpec.ofChange lawS3139BStopsWrong)

end Rows
end Go.Proofs.Ybulkblzg
