/-
  ech: statement 3, proved.
-/
import Derived.Test.Qxb6628497aFmtLift3
import Derived.Test.Qxb6628497aFmtToZ
namespace Go.Proofs.Qxb6628497aFmt

theorem fnParseConfigListIsInverseOfEncoding.proved : Rows.FnParseConfigListIsInverseOfEncodingToldSaid := l3_holds toZ_spec

#print axioms fnParseConfigListIsInverseOfEncoding.proved
end Go.Proofs.Qxb6628497aFmt
