/-
  A function's region by its number, so that the closed fact on the order of a great region is proved once; no condition.
-/
import Derived.WalkKit
import Derived.Deep.Quiet
namespace Go.Proofs.Rg
/-- The operations of region n. -/
def rgn (n : Nat) : Code → Option (Array Oper)
  | .region id ops _ => if id == n then some ops else none
  | .seq a b => match rgn n a with
    | some o => some o
    | none => rgn n b
  | .cond _ a b => match rgn n a with
    | some o => some o
    | none => rgn n b
  | .block _ a => rgn n a
  | .loop a => rgn n a
  | .scope a => rgn n a
  | _ => none
theorem lex_of {o : Option (Array Oper)} {ops : Array Oper} (h : o.map (Region.lexB .any) = some true) (e : o = some ops) : Region.lexB .any ops = true := by
  subst e
  simpa using h
end Go.Proofs.Rg
