import Derived.Test.YbulkblzgModelD
import Derived.Test.YbulkblzgD9
namespace Go.Proofs.Ybulkblzg.lawS3139AModel

theorem proved : Rows.LawS3139AModelSaid :=
  over mark_ok
end Go.Proofs.Ybulkblzg.lawS3139AModel
