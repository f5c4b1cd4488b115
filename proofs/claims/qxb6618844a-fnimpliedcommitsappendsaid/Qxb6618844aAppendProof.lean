/-
  THE STATEMENT FnImpliedCommitsAppendSaid.
-/
import Derived.Test.Qxb6618844aAppend
import Derived.Test.Qxb6618844aFrameA
namespace Go.Proofs.Qxb6618844a
theorem appendProved : Rows.FnImpliedCommitsAppendSaid :=
  row3 fun a n c os o w ha ho => walk3 a n c os o.kind o.txn o.site o.sg o.ia o.il o.ic w ha ho
end Go.Proofs.Qxb6618844a
