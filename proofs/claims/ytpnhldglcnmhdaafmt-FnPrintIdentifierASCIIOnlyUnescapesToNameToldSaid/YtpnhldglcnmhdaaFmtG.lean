/- Contracts of functions that the law of this seat reaches, and plain facts; no condition. -/
import Derived.Test.YtpnhldglcnmhdaaFmtProg
import Derived.WalkKit
import Derived.ProofKit
import Derived.OpenShut
import Derived.ShutString
import Derived.Test.YtpnhldglcnmhdaaFmtAid
import Derived.Test.YtpnhldglcnmhdaaFmtFl
import Derived.Test.YtpnhldglcnmhdaaFmtF
import Derived.Test.YtpnhldglcnmhdaaFmtStr
import Derived.Test.YtpnhldglcnmhdaaFmtPb
import Derived.Test.YtpnhldglcnmhdaaFmtQd
import Derived.ArgAppend
import Derived.WalkSmall
import Derived.Lib.OthersKept
import Derived.Laws.RangeAny
import Derived.Laws.OwnMore
import Derived.WalkSpells
import Derived.LoopTactic
import Derived.IntWalk
import Derived.Outline
import Derived.Deep.QuietTactic
import Derived.BigQuiet
import Derived.Deep.RegionHeld3
import Derived.Deep.RegionLaw
import Derived.StillTailTactics
import Derived.OwnWalk
import Derived.RegionTactic
import Derived.Laws.BitsAllLaws
import Derived.Laws.BitsLemmas
import Derived.Lib.ConvBytes
import Derived.Lib.RuneBytes
import Derived.Maps.Own
namespace Go.Proofs.YtpnhldglcnmhdaaFmt.Aux
open Go.ChangeShapes Go.WideShapes Go.ChangeAt Go.RowKit
open Go.ChangeMaps (open_string shut_string)
set_option linter.unusedVariables false
set_option linter.unusedSimpArgs false
open Fl Str Pb Qd PlainAid Aux
/-- What zzAppendUTF8Jpb2 leaves. -/
def A9 (w : World) (B : Nat) (v : Value) (xs : List Int) (e : Ending) (w' : World) : Prop := ∃ ja jn jc, e = .returned (.slice ja jn jc) ∧ Hid (AP w B v xs (.slice ja jn jc) w')
theorem a9_of {w w' : World} {B : Nat} {v v' : Value} {xs : List Int} (h : AP w B v xs v' w') : A9 w B v xs (.returned v') w' := by
  obtain ⟨a, c, rfl⟩ := ow_slice h.1
  exact ⟨a, _, c, rfl, Lib.hid h⟩
set_option maxRecDepth 100000 in
set_option maxHeartbeats 8000000 in
theorem app9 (B : Nat) (ja : Option Addr) (jn jc : Nat) (xs : List Int) (c : Int) (h0 : 0 ≤ c) (h1 : c ≤ 65535) (h2 : c < 55296 ∨ 57343 < c) (w : World) (h : OW w B (.slice ja jn jc) xs) (hB : B ≤ w.heap.size) (hl : xs.length ≤ 134217000) :
    Calls Tryf.prog 9 #[.slice ja jn jc, .int .i32 c] w (A9 w B (.slice ja jn jc) (xs ++ Lib.encodeRuneZ c)) := by
  by_cases ha : c < 128
  · have e := Lib.encodeRuneZ_one (r := c) h0 (by omega)
    have HE := Lib.hid e
    have hw : IntKind.u8.wrap c = c := IntWalk.u8_in _ (by omega)
    have HA := Lib.hid (fun ty => ow_lit h hB #[.int .u8 c] [c] 1 rfl rfl (by simp; omega) ty)
    clear h e
    go_enter Tryf.func9, Tryf.ntmps9
    go_wp2_with (at_builtin; refine wpList_app rfl _ _ #[28, 28] rfl rfl rfl (HA.out _) ?_; intro v' w1 hcn; have HN := Lib.hid hcn; clear hcn)
    go_ret
    rw [HE.out]
    exact a9_of HN.out
  · by_cases hb : c < 2048
    · have e := Lib.encodeRuneZ_two (r := c) (by omega) (by omega)
      have HE := Lib.hid e
      have o1 : bits .or .i32 192 (c / 64) = 192 + c / 64 := i32_or6 _ _ (by omega) (by omega) (by omega) (by omega) (by omega)
      have n1 : bits .and .i32 c 63 = c % 64 := bits_mask .i32 31 (by decide) wraps_i32 6 (by decide) c (by omega) (by omega)
      have o2 : bits .or .i32 128 (c % 64) = 128 + c % 64 := i32_or6 _ _ (by omega) (by omega) (by omega) (by omega) (by omega)
      have w1 : IntKind.u8.wrap (192 + c / 64) = 192 + c / 64 := IntWalk.u8_in _ (by omega)
      have w2 : IntKind.u8.wrap (128 + c % 64) = 128 + c % 64 := IntWalk.u8_in _ (by omega)
      have HA := Lib.hid (fun ty => ow_lit h hB #[.int .u8 (192 + c / 64), .int .u8 (128 + c % 64)] [192 + c / 64, 128 + c % 64] 2 rfl rfl (by simp; omega) ty)
      clear h e
      go_enter Tryf.func9, Tryf.ntmps9
      go_wp2_with (at_builtin; refine wpList_app rfl _ _ #[28, 28] rfl rfl rfl (HA.out _) ?_; intro v' w1 hcn; have HN := Lib.hid hcn; clear hcn)
      go_ret
      rw [HE.out]
      exact a9_of HN.out
    · have e := Lib.encodeRuneZ_three (r := c) (by omega)
      have HE := Lib.hid e
      have o1 : bits .or .i32 224 (c / 4096) = 224 + c / 4096 := bits_join .i32 31 (by decide) wraps_i32 5 224 (c / 4096) (by decide) (by decide) (by decide) (by omega) (by omega) (by omega)
      have n1 : bits .and .i32 (c / 64) 63 = c / 64 % 64 := bits_mask .i32 31 (by decide) wraps_i32 6 (by decide) (c / 64) (by omega) (by omega)
      have n2 : bits .and .i32 c 63 = c % 64 := bits_mask .i32 31 (by decide) wraps_i32 6 (by decide) c (by omega) (by omega)
      have o2 : bits .or .i32 128 (c / 64 % 64) = 128 + c / 64 % 64 := i32_or6 _ _ (by omega) (by omega) (by omega) (by omega) (by omega)
      have o3 : bits .or .i32 128 (c % 64) = 128 + c % 64 := i32_or6 _ _ (by omega) (by omega) (by omega) (by omega) (by omega)
      have w1 : IntKind.u8.wrap (224 + c / 4096) = 224 + c / 4096 := IntWalk.u8_in _ (by omega)
      have w2 : IntKind.u8.wrap (128 + c / 64 % 64) = 128 + c / 64 % 64 := IntWalk.u8_in _ (by omega)
      have w3 : IntKind.u8.wrap (128 + c % 64) = 128 + c % 64 := IntWalk.u8_in _ (by omega)
      have HA := Lib.hid (fun ty => ow_lit h hB #[.int .u8 (224 + c / 4096), .int .u8 (128 + c / 64 % 64), .int .u8 (128 + c % 64)] [224 + c / 4096, 128 + c / 64 % 64, 128 + c % 64] 3 rfl rfl (by simp; omega) ty)
      clear h e
      go_enter Tryf.func9, Tryf.ntmps9
      go_wp2_with (at_builtin; refine wpList_app rfl _ _ #[28, 28] rfl rfl rfl (HA.out _) ?_; intro v' w1 hcn; have HN := Lib.hid hcn; clear hcn)
      go_ret
      rw [HE.out]
      exact a9_of HN.out
end Go.Proofs.YtpnhldglcnmhdaaFmt.Aux
