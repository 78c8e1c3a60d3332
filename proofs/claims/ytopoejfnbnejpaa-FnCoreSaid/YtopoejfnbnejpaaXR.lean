/- The closed runs of Salsa20's core with 8 rounds: impl.Core and spec.Core at 64 bytes come to the same words. -/
import Derived.Test.YtopoejfnbnejpaaX11
import Derived.Test.YtopoejfnbnejpaaProg
import Derived.KernelRfl
namespace Go.Proofs.Ytopoejfnbnejpaa
open Go.SX Go.SX.Sal
set_option maxRecDepth 100000
theorem run_impl8 : isSl (subB 528 4 0 64) 64 (callX Try.prog F 0 noSum 400 4 [.s (.slc 3 0 64)] stS) = true := by kernel_rfl
theorem run_spec8 : isSl (subB 528 4 0 64) 64 (callX Try.prog F 0 noSum 400 6 [.s (.slc 3 0 64), .s (.int .i64 8)] stS) = true := by kernel_rfl
theorem mixed : Try.prog.follows .mixedOrders = true := by kernel_rfl
end Go.Proofs.Ytopoejfnbnejpaa
