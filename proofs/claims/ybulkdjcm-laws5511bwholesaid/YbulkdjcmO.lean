/-
  THE STATEMENT.
-/
import Derived.Test.YbulkdjcmL
import Derived.Test.YbulkdjcmN
namespace Go.Proofs.Ybulkdjcm

/-- THE STATEMENT. -/
theorem whole_said : Rows.LawS5511BWholeSaid :=
  row_of (fun n nmask emask b off c1 a1 E w hE hl h0 h1 h2 h3 => law_any n nmask emask b off c1 a1 E w hE hl h0 h1 h2 h3)

end Go.Proofs.Ybulkdjcm
