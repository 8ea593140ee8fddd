import Derived.Test.YbulkblzgHitsD
import Derived.Test.YbulkblzgD9
namespace Go.Proofs.Ybulkblzg.lawS3139AHits

theorem proved : Rows.LawS3139AHitsSaid :=
  over mark_ok
end Go.Proofs.Ybulkblzg.lawS3139AHits
