/-
  The facts of this seat's program that every row asks for (its head's words), proved once by the kernel; no condition.
-/
import Derived.Test.YtfjjokophgkifaaRows
import Derived.ProofKit
import Derived.JoinedOf
namespace Go.Proofs.Ytfjjokophgkifaa.Facts
theorem all3 : (Try.prog.mayEnter && (false == Try.prog.liftsFinal) && (Try.prog.make == some .cut)) = true := by kernel_rfl
theorem enter : Try.prog.mayEnter = true := by
  have h := all3; simp only [Bool.and_eq_true] at h; exact h.1.1
theorem lifts : Try.prog.liftsFinal = false := by
  have h := all3; simp only [Bool.and_eq_true, beq_iff_eq] at h; exact h.1.2.symm
theorem make : Try.prog.make = some .cut := by
  have h := all3; simp only [Bool.and_eq_true, beq_iff_eq] at h; exact h.2
end Go.Proofs.Ytfjjokophgkifaa.Facts
