/- A closed fact of this seat's program, proved once by the kernel; no condition. -/
import Derived.Test.YtfjjokophgkifaaRows
import Derived.ProofKit
import Derived.JoinedOf
namespace Go.Proofs.Ytfjjokophgkifaa.FactsL
theorem laid : laidOutB Try.prog = true := by kernel_rfl
end Go.Proofs.Ytfjjokophgkifaa.FactsL
