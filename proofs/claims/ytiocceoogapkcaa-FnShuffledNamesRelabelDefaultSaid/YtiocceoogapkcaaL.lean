/- Contracts of functions that the law of this seat reaches, and plain facts; no condition. -/
import Derived.Test.YtiocceoogapkcaaProg
import Derived.WalkKit
import Derived.ProofKit
import Derived.OpenShut
import Derived.ShutString
import Derived.Test.YtiocceoogapkcaaAid
import Derived.Test.YtiocceoogapkcaaK
import Derived.Sort.LotA
import Derived.Sort.LotB
import Derived.Sort.LotC
import Derived.Sort.LotD3
import Derived.ArgAppend
import Derived.WalkSmall
import Derived.WalkSpells
import Derived.LoopTactic
import Derived.Deep.LoopGhost
import Derived.Deep.CutBlock
import Derived.Deep.DeepCutAuto
import Derived.IntWalk
import Derived.Outline
import Derived.Deep.QuietTactic
import Derived.BigQuiet
import Derived.RegionTactic
import Derived.StillTailTactics
import Derived.Shelf.Small.Bits
import Derived.Shelf.Lays
import Derived.Laws.BitsAllLaws
import Derived.Laws.BitsLemmas
import Derived.BigRegion
import Derived.Laws.OwnMore
import Derived.Laws.Rows
namespace Go.Proofs.Ytiocceoogapkcaa.Aux
open Go.ChangeShapes Go.WideShapes Go.ChangeAt Go.RowKit
open Go.ChangeMaps (open_string shut_string)
set_option linter.unusedVariables false
set_option linter.unusedSimpArgs false
open Fl Str Pb Qd PlainAid Aux
open Go.Sort (swp)
section
variable {g : Nat → ByteArray} {f : Nat → Int} {blk : Nat} {w w' W0 : World} {d : Array Nat}
set_option maxRecDepth 100000 in
set_option maxHeartbeats 8000000 in
theorem sort12 (h : St g f blk w d) : Calls Try.prog 12 #[.iface 35 (.slice (some ⟨blk, 0, none⟩) 64 64)] w (Pq g f blk w d 0 64) := by
  have mN := mLen blk
  have HN := Lib.hid (len52 blk w)
  have HL := Lib.hid (len16 64 (by omega) (by omega) w)
  have HP := Lib.hid (pdq17 65 0 64 7 d w (by omega) h (by omega) (by omega) (by omega) (.inl rfl))
  clear h
  go_enter Try.func12, Try.ntmps12
  go_wp2_with fail
  refine HN.out.mono ?_
  rintro e w1 ⟨rfl, rfl⟩
  go_wp2_with fail
  refine HL.out.mono ?_
  rintro e w1 ⟨l, ⟨rfl, rfl⟩, hl⟩
  obtain rfl : l = 7 := by have := lenOk_cases hl; omega
  clear hl
  go_wp2_with fail
  refine HP.out.mono ?_
  rintro e w2 hh
  obtain rfl := hh.1
  have HH := Lib.hid hh
  clear hh
  go_wp2_with fail
  go_end0
  exact HH.out
end
end Go.Proofs.Ytiocceoogapkcaa.Aux
