import Derived.Test.Qxb6601548aRowC
import Derived.Test.Qxb6601548aCap
namespace Go.Proofs.Qxb6601548a
theorem certifyFitsEveryCapacity : Rows.FnCertifyFitsEveryCapacitySaid := RowC.over capOk
end Go.Proofs.Qxb6601548a
