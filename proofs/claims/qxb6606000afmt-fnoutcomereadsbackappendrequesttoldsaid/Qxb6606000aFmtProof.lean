import Derived.Test.Qxb6606000aFmtRows
import Derived.Test.Qxb6606000aFmtTie
import Derived.Test.Qxb6606000aFmtCards
import Derived.Test.Qxb6606000aFmtFrame
import Derived.Test.Qxb6606000aFmtOne
namespace Go.Proofs.Qxb6606000aFmt.lawOut

/-- ████ THE TOLD AND TIED CARD ████ -/
theorem proved : Rows.FnOutcomeReadsBackAppendRequestToldSaid := Qxb6606000aFmt.proved_of (fun k x o w hk hx ho => Qxb6606000aFmt.W.walk4 k x o w hk hx ho)

end Go.Proofs.Qxb6606000aFmt.lawOut
