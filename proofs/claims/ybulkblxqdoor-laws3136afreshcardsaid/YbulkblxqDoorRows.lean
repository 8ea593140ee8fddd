/-
  NARROWER THAN 'FOR EVERY INPUT', by the rows' own cells (each row's printed sentence says how): LawS3136AFresh: laid · LawS3136AKnown: laid.
  DERIVED. THE GIVEN ROWS OF THIS SEAT. 2 by the template 'for every input the law returns true; each argument reads behind the call as it read before'; 0 by the template 'total and deterministic' (their statements: YbulkblxqDoorTotals.lean).
  GIVEN WITH THE SEED: the statements are not yours to turn. If you find one false, say at which input.
  Laid BY PROGRAM, IN A SANDBOX (cutbox-rows.mjs): the forced cells as the released guide's own fill.sh prints them over the translation 13666e337f4f4f78… (all of the seat's roots in one cut). By AI agents, Wed Nov 11 2026. No macro, syntax, notation, axiom, sorry.
-/
import Derived.Test.YbulkblxqDoorChecked
import GoSem.Claim
import GoSem.ClaimJoined
import GoSem.ClaimMapViews
import Derived.JoinedTies
import Derived.KernelRfl
namespace Go.Proofs.YbulkblxqDoor
/- THE CELL 'sum', in the pinned program and in every row, IS THE sha256 OF THE DUMP (.gsa) THAT YbulkblxqDoorProg.lean LOADS. Nothing in Lean hashes anything: it is a label: what it is worth is what the hold of that sum in a sandbox is worth. -/
noncomputable def Ybad.pinned : Pinned := { name := "ybulkblxqdoor", sum := "13666e337f4f4f7839df6ef717ffb97a8201d292e5be6def798d7605c053c972", checked := Ybad.checked }
namespace Rows
def none {H : Type} : Left H := { results := [], args := [] }

/- WHAT THE LISTED PACKAGE-LEVEL VARIABLES READ AS WHEN THE CALL BEGINS. Each datum BY PROGRAM (the guide's laid-datum.mjs) off the statement by which the dump's own 'gosem.cut.vars' lays the variable. In a bare row this is a premise. The card (YbulkblxqDoorCards.lean) ties it to the program's text. -/
def laid_example_com_interlace_interlace_internal_segment_apartOrders {H : Type} : DataW H := .agg [.agg [.lit (.int .i64 0), .lit (.int .i64 1), .lit (.int .i64 2), .lit (.int .i64 3)], .agg [.lit (.int .i64 0), .lit (.int .i64 2), .lit (.int .i64 1), .lit (.int .i64 3)], .agg [.lit (.int .i64 0), .lit (.int .i64 2), .lit (.int .i64 3), .lit (.int .i64 1)]]

/-- 'segment.LawS3136AFresh': WHATEVER THE INPUT: true; the input reads as it did. -/
def lawS3136AFreshSpec : ChangeSpec := { name := "lawS3136AFresh", vars := ["example.com/interlace/interlace/internal/segment.apartOrders"], fn := fun _ => fun
  | [d, g1] => { results := [.lit (.bool true)], args := [d], vars := [g1] }
  | _ => none }
def lawS3136AFreshRow : OpenClaim := { program := "ybulkblxqdoor", sum := "13666e337f4f4f7839df6ef717ffb97a8201d292e5be6def798d7605c053c972", func := "example.com/interlace/interlace/internal/segment.LawS3136AFresh", spec := "lawS3136AFresh", recurses := true, named := ["example.com/interlace/interlace/internal/segment.apartOrders"], plainKeys := false, apart := false, laid := [("example.com/interlace/interlace/internal/segment.apartOrders", laid_example_com_interlace_interlace_internal_segment_apartOrders)] }
def LawS3136AFreshSaid : Prop := lawS3136AFreshRow.holds Ybad.pinned (OpenSpec.ofChange lawS3136AFreshSpec)

/-- ITS FALSE NEIGHBOUR: 'it returns false'. Refute it at one input. -/
def lawS3136AFreshWrong : ChangeSpec := { name := "lawS3136AFresh", vars := ["example.com/interlace/interlace/internal/segment.apartOrders"], fn := fun _ => fun
  | [d, g1] => { results := [.lit (.bool false)], args := [d], vars := [g1] }
  | _ => none }
def LawS3136AFreshWrongFalsely : Prop := lawS3136AFreshRow.holds Ybad.pinned (OpenSpec.ofChange lawS3136AFreshWrong)

/-- 'segment.LawS3136AKnown': WHATEVER THE INPUT: true; the input reads as it did. -/
def lawS3136AKnownSpec : ChangeSpec := { name := "lawS3136AKnown", vars := ["example.com/interlace/interlace/internal/segment.apartOrders"], fn := fun _ => fun
  | [d, g1] => { results := [.lit (.bool true)], args := [d], vars := [g1] }
  | _ => none }
def lawS3136AKnownRow : OpenClaim := { program := "ybulkblxqdoor", sum := "13666e337f4f4f7839df6ef717ffb97a8201d292e5be6def798d7605c053c972", func := "example.com/interlace/interlace/internal/segment.LawS3136AKnown", spec := "lawS3136AKnown", recurses := true, named := ["example.com/interlace/interlace/internal/segment.apartOrders"], plainKeys := false, apart := false, laid := [("example.com/interlace/interlace/internal/segment.apartOrders", laid_example_com_interlace_interlace_internal_segment_apartOrders)] }
def LawS3136AKnownSaid : Prop := lawS3136AKnownRow.holds Ybad.pinned (OpenSpec.ofChange lawS3136AKnownSpec)

/-- ITS FALSE NEIGHBOUR: 'it returns false'. Refute it at one input. -/
def lawS3136AKnownWrong : ChangeSpec := { name := "lawS3136AKnown", vars := ["example.com/interlace/interlace/internal/segment.apartOrders"], fn := fun _ => fun
  | [d, g1] => { results := [.lit (.bool false)], args := [d], vars := [g1] }
  | _ => none }
def LawS3136AKnownWrongFalsely : Prop := lawS3136AKnownRow.holds Ybad.pinned (OpenSpec.ofChange lawS3136AKnownWrong)

end Rows
end Go.Proofs.YbulkblxqDoor
