/-
  clear of part of a row of several cells an element; the live slots of a row.
-/
import Derived.Test.YbulkomiDelGS
namespace Go.Proofs.Ybulkomi.Sj
open Go.RowKit Go.Proofs.Ybulkomi

end Go.Proofs.Ybulkomi.Sj
