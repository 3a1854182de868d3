/-
  ech: statement 4, proved.
-/
import Derived.Test.Qxb6628497aFmtLift4
import Derived.Test.Qxb6628497aFmtToZ
namespace Go.Proofs.Qxb6628497aFmt

theorem fnParseConfigListReadsBackEveryWellFormedList.proved : Rows.FnParseConfigListReadsBackEveryWellFormedListToldSaid := l4_holds toZ_spec

#print axioms fnParseConfigListReadsBackEveryWellFormedList.proved
end Go.Proofs.Qxb6628497aFmt
