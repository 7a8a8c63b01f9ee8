/- Appending a parameter to the mime type of a data URL never changes the decoded MIME type. No condition. -/
import Derived.Test.YtllnkckhafdikaaRows
import Derived.WalkKit
import Derived.ProofKit
import Derived.OpenShut
import Derived.ShutString
import Derived.Test.YtllnkckhafdikaaFacts
import Derived.Test.YtllnkckhafdikaaAid
import Derived.Test.YtllnkckhafdikaaFl
import Derived.Test.YtllnkckhafdikaaStr
import Derived.Test.YtllnkckhafdikaaShelf
import Derived.WalkSpells
import Derived.LoopTactic
import Derived.RegionTactic
import Derived.Outline
import Derived.Deep.QuietTactic
import Derived.BigQuiet
import Derived.IntWalk
import Derived.Deep.DeepCutAuto
namespace Go.Proofs.Ytllnkckhafdikaa.fnDecodeMIMETypeIgnoresParameters
open Go.ChangeShapes Go.WideShapes Go.ChangeAt Go.RowKit
open Go.ChangeMaps (open_string shut_string)
set_option linter.unusedVariables false

theorem own : ownKnob Try.prog.godebug = none := by kernel_rfl
theorem laidOut : laidOutB Try.prog = true := by kernel_rfl

open Fl Str PlainAid
theorem Below.drewR {B : Nat} {w w' : World} (h : Below B w w') : Below B w w'.drew := ⟨h.os, h.tape, h.output, h.size, h.block⟩
theorem idx_none {l : List UInt8} {c : UInt8} (h : c ∉ l) : Lib.indexByte l c = -1 := by
  induction l with
  | nil => rfl
  | cons b l ih =>
    have hb : (b == c) = false := by simpa using fun e : b = c => h (e ▸ List.mem_cons_self)
    have := ih fun e => h (List.mem_cons_of_mem _ e)
    simp [Lib.indexByte, hb, this]
theorem idx_at {l r : List UInt8} {c : UInt8} (h : c ∉ l) : Lib.indexByte (l ++ c :: r) c = (l.length : Int) := by
  induction l with
  | nil => simp [Lib.indexByte]
  | cons b l ih =>
    have hb : (b == c) = false := by simpa using fun e : b = c => h (e ▸ List.mem_cons_self)
    have := ih fun e => h (List.mem_cons_of_mem _ e)
    simp only [List.cons_append, Lib.indexByte, hb, this, List.length_cons]
    have : ((l.length : Int) == -1) = false := by simp
    simp [this]
def Bl (w : World) (e : Ending) (w' : World) : Prop := w' = w ∧ ∃ v, e = .returned (.bool v)
theorem zb (s0 : ByteArray) (s1 : ByteArray) (s2 : ByteArray) (x3 : Bool) (w : World) : Calls Try.prog 19 #[.string s0, .string s1, .string s2, .bool x3] w (Bl w) := by
  by_cases h0 : (1048576 : Int) < (s0.size : Int)
  · go_enter Try.func19, Try.ntmps19
    go_wp2_with fail
    go_ret
    exact ⟨rfl, _, rfl⟩
  have e0 : IntKind.i64.wrap ((s0.size : Int)) = (s0.size : Int) := IntWalk.i64_in _ (by omega)
  by_cases h1 : (1048576 : Int) < (s1.size : Int)
  · go_enter Try.func19, Try.ntmps19
    go_wp2_with fail
    go_ret
    exact ⟨rfl, _, rfl⟩
  have e1 : IntKind.i64.wrap ((s0.size : Int) + (s1.size : Int)) = (s0.size : Int) + (s1.size : Int) := IntWalk.i64_in _ (by omega)
  by_cases g1 : (1048576 : Int) < (s0.size : Int) + (s1.size : Int)
  · go_enter Try.func19, Try.ntmps19
    go_wp2_with fail
    go_ret
    exact ⟨rfl, _, rfl⟩
  by_cases h2 : (1048576 : Int) < (s2.size : Int)
  · go_enter Try.func19, Try.ntmps19
    go_wp2_with fail
    go_ret
    exact ⟨rfl, _, rfl⟩
  have e2 : IntKind.i64.wrap ((s0.size : Int) + (s1.size : Int) + (s2.size : Int)) = (s0.size : Int) + (s1.size : Int) + (s2.size : Int) := IntWalk.i64_in _ (by omega)
  by_cases g2 : (1048576 : Int) < (s0.size : Int) + (s1.size : Int) + (s2.size : Int)
  · go_enter Try.func19, Try.ntmps19
    go_wp2_with fail
    go_ret
    exact ⟨rfl, _, rfl⟩
  go_enter Try.func19, Try.ntmps19
  go_wp2_with fail
  go_ret
  exact ⟨rfl, _, rfl⟩
def seg (s : ByteArray) : ByteArray := ⟨(s.data.toList.takeWhile (· != 59)).toArray⟩
def mt (s : ByteArray) : Int := if ((seg s).toList == [116, 101, 120, 116, 47, 99, 115, 115]) = true then 1 else if ((seg s).toList == [116, 101, 120, 116, 47, 106, 97, 118, 97, 115, 99, 114, 105, 112, 116]) = true then 2 else if ((seg s).toList == [97, 112, 112, 108, 105, 99, 97, 116, 105, 111, 110, 47, 106, 115, 111, 110]) = true then 3 else 0
theorem tw_none {l : List UInt8} {c : UInt8} (h : c ∉ l) : l.takeWhile (· != c) = l := by
  induction l with
  | nil => rfl
  | cons b l ih =>
    have hb : (b != c) = true := by simpa using fun e : b = c => h (e ▸ List.mem_cons_self)
    rw [List.takeWhile_cons, if_pos hb, ih fun e => h (List.mem_cons_of_mem _ e)]
theorem tw_at {l r : List UInt8} {c : UInt8} (h : c ∉ l) : (l ++ c :: r).takeWhile (· != c) = l := by
  induction l with
  | nil => simp
  | cons b l ih =>
    have hb : (b != c) = true := by simpa using fun e : b = c => h (e ▸ List.mem_cons_self)
    rw [List.cons_append, List.takeWhile_cons, if_pos hb, ih fun e => h (List.mem_cons_of_mem _ e)]
theorem split_at {l : List UInt8} {c : UInt8} (h : c ∈ l) : ∃ p r, l = p ++ c :: r ∧ c ∉ p := by
  induction l with
  | nil => cases h
  | cons b l ih =>
    by_cases e : b = c
    · exact ⟨[], l, by rw [e]; rfl, by simp⟩
    · obtain ⟨p, r, rfl, hp⟩ := ih ((List.mem_cons.1 h).resolve_left fun x => e x.symm)
      exact ⟨b :: p, r, rfl, by simp [hp]; exact fun x => e x.symm⟩
theorem ibn (s : ByteArray) (w : World) (h : Lib.indexByte s.data.toList (59 : Int).toNat.toUInt8 = -1) : Calls Try.prog 28 #[.string s, .int .u8 59] w fun e w' => e = .returned (.int .i64 (-1)) ∧ w' = w :=
  (Try.strings_IndexByte s 59 w).mono fun e w' ⟨he, hw⟩ => ⟨by rw [he, h], hw⟩
theorem ibs (s : ByteArray) (n : Nat) (w : World) (h : Lib.indexByte s.data.toList (59 : Int).toNat.toUInt8 = (n : Int)) : Calls Try.prog 28 #[.string s, .int .u8 59] w fun e w' => e = .returned (.int .i64 n) ∧ w' = w :=
  (Try.strings_IndexByte s 59 w).mono fun e w' ⟨he, hw⟩ => ⟨by rw [he, h], hw⟩
set_option maxRecDepth 100000 in
theorem dec22 (s d : ByteArray) (b : Bool) (w : World) (hs : s.size ≤ 4194304) : Calls Try.prog 22 #[.agg #[.string s, .string d, .bool b]] w fun e w' => e = .returned (.int .u8 (mt s)) ∧ w' = w.alloc (.cells #[.string s, .string d, .bool b] 47) := by
  by_cases hm : (59 : UInt8) ∈ s.data.toList
  · obtain ⟨p, r, hl, hp⟩ := split_at hm
    obtain ⟨n, hn⟩ : ∃ n, n = p.length := ⟨_, rfl⟩
    have HI := Lib.hid (show Lib.indexByte s.data.toList (59 : Int).toNat.toUInt8 = (n : Int) by rw [hl, hn]; exact idx_at hp)
    obtain ⟨t, ht⟩ : ∃ t : ByteArray, t = ⟨p.toArray⟩ := ⟨_, rfl⟩
    have HS := Lib.hid (show seg s = t by unfold seg; rw [hl, tw_at hp, ht])
    have hn1 : n ≤ s.size := by rw [← len_data, hl, hn]; simp
    have x1 : s.extract 0 n = t := by
      rw [ht]
      have : (s.extract 0 n).data.toList = p := by rw [extract_data, hl, hn]; simp
      exact ByteArray.ext (by rw [← this])
    have n1 : ((n : Int) == -1) = false := by simp
    clear hl hp hn ht hm
    cases q1 : (t.toList == [116, 101, 120, 116, 47, 99, 115, 115])
    case true =>
      have H := Lib.hid (show mt s = 1 by unfold mt; rw [HS.out, if_pos q1])
      go_enter Try.func22, Try.ntmps22
      go_wp2_with fail
      refine (ibs s n _ HI.out).mono ?_
      rintro e w1 ⟨rfl, rfl⟩
      go_wp2_with fail
      go_ret
      exact ⟨by rw [H.out]; rfl, rfl⟩
    cases q2 : (t.toList == [116, 101, 120, 116, 47, 106, 97, 118, 97, 115, 99, 114, 105, 112, 116])
    case true =>
      have H := Lib.hid (show mt s = 2 by unfold mt; rw [HS.out, if_neg (by rw [q1]; decide), if_pos q2])
      go_enter Try.func22, Try.ntmps22
      go_wp2_with fail
      refine (ibs s n _ HI.out).mono ?_
      rintro e w1 ⟨rfl, rfl⟩
      go_wp2_with fail
      go_ret
      exact ⟨by rw [H.out]; rfl, rfl⟩
    cases q3 : (t.toList == [97, 112, 112, 108, 105, 99, 97, 116, 105, 111, 110, 47, 106, 115, 111, 110])
    case true =>
      have H := Lib.hid (show mt s = 3 by unfold mt; rw [HS.out, if_neg (by rw [q1]; decide), if_neg (by rw [q2]; decide), if_pos q3])
      go_enter Try.func22, Try.ntmps22
      go_wp2_with fail
      refine (ibs s n _ HI.out).mono ?_
      rintro e w1 ⟨rfl, rfl⟩
      go_wp2_with fail
      go_ret
      exact ⟨by rw [H.out]; rfl, rfl⟩
    case false =>
      have H := Lib.hid (show mt s = 0 by unfold mt; rw [HS.out, if_neg (by rw [q1]; decide), if_neg (by rw [q2]; decide), if_neg (by rw [q3]; decide)])
      go_enter Try.func22, Try.ntmps22
      go_wp2_with fail
      refine (ibs s n _ HI.out).mono ?_
      rintro e w1 ⟨rfl, rfl⟩
      go_wp2_with fail
      go_ret
      exact ⟨by rw [H.out]; rfl, rfl⟩
  · have HI := Lib.hid (show Lib.indexByte s.data.toList (59 : Int).toNat.toUInt8 = -1 from idx_none hm)
    have HS := Lib.hid (show seg s = s by unfold seg; rw [tw_none hm])
    clear hm
    cases q1 : (s.toList == [116, 101, 120, 116, 47, 99, 115, 115])
    case true =>
      have H := Lib.hid (show mt s = 1 by unfold mt; rw [HS.out, if_pos q1])
      go_enter Try.func22, Try.ntmps22
      go_wp2_with fail
      refine (ibn s _ HI.out).mono ?_
      rintro e w1 ⟨rfl, rfl⟩
      go_wp2_with fail
      go_ret
      exact ⟨by rw [H.out]; rfl, rfl⟩
    cases q2 : (s.toList == [116, 101, 120, 116, 47, 106, 97, 118, 97, 115, 99, 114, 105, 112, 116])
    case true =>
      have H := Lib.hid (show mt s = 2 by unfold mt; rw [HS.out, if_neg (by rw [q1]; decide), if_pos q2])
      go_enter Try.func22, Try.ntmps22
      go_wp2_with fail
      refine (ibn s _ HI.out).mono ?_
      rintro e w1 ⟨rfl, rfl⟩
      go_wp2_with fail
      go_ret
      exact ⟨by rw [H.out]; rfl, rfl⟩
    cases q3 : (s.toList == [97, 112, 112, 108, 105, 99, 97, 116, 105, 111, 110, 47, 106, 115, 111, 110])
    case true =>
      have H := Lib.hid (show mt s = 3 by unfold mt; rw [HS.out, if_neg (by rw [q1]; decide), if_neg (by rw [q2]; decide), if_pos q3])
      go_enter Try.func22, Try.ntmps22
      go_wp2_with fail
      refine (ibn s _ HI.out).mono ?_
      rintro e w1 ⟨rfl, rfl⟩
      go_wp2_with fail
      go_ret
      exact ⟨by rw [H.out]; rfl, rfl⟩
    case false =>
      have H := Lib.hid (show mt s = 0 by unfold mt; rw [HS.out, if_neg (by rw [q1]; decide), if_neg (by rw [q2]; decide), if_neg (by rw [q3]; decide)])
      go_enter Try.func22, Try.ntmps22
      go_wp2_with fail
      refine (ibn s _ HI.out).mono ?_
      rintro e w1 ⟨rfl, rfl⟩
      go_wp2_with fail
      go_ret
      exact ⟨by rw [H.out]; rfl, rfl⟩
theorem tw_cut (l x : List UInt8) (c : UInt8) : (l ++ c :: x).takeWhile (· != c) = l.takeWhile (· != c) := by
  by_cases h : c ∈ l
  · obtain ⟨p, q, rfl, hp⟩ := split_at h
    rw [List.append_assoc, List.cons_append, tw_at hp, tw_at hp]
  · rw [tw_at h, tw_none h]
def b64 : ByteArray := ⟨#[59, 98, 97, 115, 101, 54, 52]⟩
def dt : ByteArray := ⟨#[100, 97, 116, 97, 58]⟩
def cm : ByteArray := ⟨#[44]⟩
def sc : ByteArray := ⟨#[59]⟩
def Par (w : World) (mm : ByteArray) (e : Ending) (w' : World) : Prop :=
  ∃ (r d : ByteArray) (b : Bool), e = .returned (.tuple #[.agg #[.string r, .string d, .bool b], .bool true]) ∧ w' = w.alloc (.cells #[.string r, .string d, .bool b] 47) ∧ seg r = seg mm ∧ r.size ≤ mm.size
theorem hpd (u : ByteArray) (w : World) (h : Lib.hasPrefix u.data.toList [100, 97, 116, 97, 58] = true) : Calls Try.prog 27 #[.string u, .string ⟨#[100, 97, 116, 97, 58]⟩] w fun e w' => e = .returned (.bool true) ∧ w' = w :=
  (Try.strings_HasPrefix u ⟨#[100, 97, 116, 97, 58]⟩ w).mono fun e w' ⟨he, hw⟩ => ⟨by rw [he, ← h], hw⟩
theorem hsb (u : ByteArray) (v : Bool) (w : World) (hs : u.size ≤ 9223372036854775807) (h : Lib.hasSuffix u.data.toList [59, 98, 97, 115, 101, 54, 52] = v) : Calls Try.prog 29 #[.string u, .string ⟨#[59, 98, 97, 115, 101, 54, 52]⟩] w fun e w' => e = .returned (.bool v) ∧ w' = w :=
  (Try.strings_HasSuffix u ⟨#[59, 98, 97, 115, 101, 54, 52]⟩ w hs).mono fun e w' ⟨he, hw⟩ => ⟨by rw [he, ← h], hw⟩
theorem ibc (s : ByteArray) (n : Nat) (w : World) (h : Lib.indexByte s.data.toList (44 : Int).toNat.toUInt8 = (n : Int)) : Calls Try.prog 28 #[.string s, .int .u8 44] w fun e w' => e = .returned (.int .i64 n) ∧ w' = w :=
  (Try.strings_IndexByte s 44 w).mono fun e w' ⟨he, hw⟩ => ⟨by rw [he, h], hw⟩
set_option maxRecDepth 100000 in
theorem parse21 (u mm d : ByteArray) (c : Nat) (w : World) (hu : u.size ≤ 4194304) (hc : 5 ≤ c) (hc2 : c + 1 ≤ u.size) (hmm : mm.size ≤ u.size)
    (hpp : Lib.hasPrefix u.data.toList [100, 97, 116, 97, 58] = true) (hi : Lib.indexByte u.data.toList (44 : Int).toNat.toUInt8 = (c : Int)) (x1 : u.extract 5 c = mm) (x2 : u.extract (c + 1) u.size = d) :
    Calls Try.prog 21 #[.string u] w (Par w mm) := by
  have HP := Lib.hid hpp
  have HI := Lib.hid hi
  clear hpp hi
  have n1 : ((c : Int) == -1) = false := by simp
  cases hsx : Lib.hasSuffix mm.data.toList [59, 98, 97, 115, 101, 54, 52]
  · have HX := Lib.hid hsx
    clear hsx
    go_enter Try.func21, Try.ntmps21
    go_wp2_with fail
    refine (hpd u _ HP.out).mono ?_
    rintro e w1 ⟨rfl, rfl⟩
    go_wp2_with fail
    refine (ibc u c _ HI.out).mono ?_
    rintro e w1 ⟨rfl, rfl⟩
    go_wp2_with fail
    refine (hsb mm false _ (by omega) HX.out).mono ?_
    rintro e w1 ⟨rfl, rfl⟩
    go_wp2_with fail
    exact bodyPost_ret (v := .tuple #[.agg #[.string mm, .string d, .bool false], .bool true]) (by simp [results, Try.results21, go_sem]) rfl ⟨_, _, _, rfl, rfl, rfl, Nat.le_refl _⟩
  · obtain ⟨l, hl⟩ := List.isSuffixOf_iff_suffix.1 hsx
    obtain ⟨k, hk⟩ : ∃ k, k = l.length := ⟨_, rfl⟩
    have hsz : mm.size = k + 7 := by rw [← len_data, ← hl, hk]; simp
    obtain ⟨r, hr⟩ : ∃ r : ByteArray, r = ⟨l.toArray⟩ := ⟨_, rfl⟩
    have x3 : mm.extract 0 k = r := by
      rw [hr]
      have : (mm.extract 0 k).data.toList = l := by rw [extract_data, ← hl, hk]; simp
      exact ByteArray.ext (by rw [← this])
    have HS := Lib.hid (show seg r = seg mm by unfold seg; rw [← hl, hr]; simp only [tw_cut])
    have HL := Lib.hid (show r.size ≤ mm.size by rw [hsz, hr, hk]; show l.toArray.size ≤ _; simp)
    have e7 : (mm.size : Int) - 7 = (k : Int) := by omega
    have hkl : k ≤ mm.size := by omega
    have HX := Lib.hid hsx
    clear hsx hl hk hsz hr
    go_enter Try.func21, Try.ntmps21
    go_wp2_with fail
    refine (hpd u _ HP.out).mono ?_
    rintro e w1 ⟨rfl, rfl⟩
    go_wp2_with fail
    refine (ibc u c _ HI.out).mono ?_
    rintro e w1 ⟨rfl, rfl⟩
    go_wp2_with fail
    refine (hsb mm true _ (by omega) HX.out).mono ?_
    rintro e w1 ⟨rfl, rfl⟩
    go_wp2_with fail
    exact bodyPost_ret (v := .tuple #[.agg #[.string r, .string d, .bool true], .bool true]) (by simp [results, Try.results21, go_sem]) rfl ⟨_, _, _, rfl, rfl, HS.out, HL.out⟩
theorem parse (u mm d : ByteArray) (w : World) (e : u = dt ++ mm ++ cm ++ d) (h1 : mm.size ≤ 1048576) (h2 : d.size ≤ 1048576) (hn : (44 : UInt8) ∉ mm.data.toList) : Calls Try.prog 21 #[.string u] w (Par w mm) := by
  subst e
  have hd : dt.size = 5 := rfl
  have hc : cm.size = 1 := rfl
  refine parse21 _ mm d (5 + mm.size) w ?_ (by omega) ?_ ?_ ?_ ?_ ?_ ?_
  · simp [hd, hc]; omega
  · simp [hd, hc]
  · simp [hd, hc]; omega
  · exact List.isPrefixOf_iff_prefix.2 ⟨mm.data.toList ++ cm.data.toList ++ d.data.toList, by simp [dt]⟩
  · have : (dt ++ mm ++ cm ++ d).data.toList = (dt.data.toList ++ mm.data.toList) ++ 44 :: d.data.toList := by simp [cm]
    rw [this]
    refine (idx_at (c := 44) ?_).trans ?_
    · simp only [List.mem_append, not_or]; exact ⟨by decide, hn⟩
    · rw [List.length_append, len_data, len_data, hd]
  · have : ((dt ++ mm ++ cm ++ d).extract 5 (5 + mm.size)).data.toList = mm.data.toList := by
      have e : (dt ++ mm ++ cm ++ d).data.toList = dt.data.toList ++ (mm.data.toList ++ (cm.data.toList ++ d.data.toList)) := by simp
      rw [extract_data, e, List.drop_left' (show dt.data.toList.length = 5 from rfl), show 5 + mm.size - 5 = mm.size by omega, List.take_left' (len_data mm)]
    exact ByteArray.ext (by rw [← Array.toArray_toList (xs := mm.data), ← this])
  · exact ByteArray.extract_append_eq_right (by simp [hd, hc]) (by simp)
def Con (s : ByteArray) (w : World) (e : Ending) (w' : World) : Prop := w' = w ∧ ∃ v, e = .returned (.bool v) ∧ (v = false → ∀ k, k < s.size → bt s k ≠ 44)
theorem cont (s : ByteArray) (w : World) (hs : s.size ≤ 1048576) :
    Calls Try.prog 20 #[.string s, .int .u8 44] w (Con s w) := by
  have hbp := get_bt s
  go_enter Try.func20, Try.ntmps20
  go_wp2_with fail
  go_loop [5] (fun i => ∃ k : Nat, k ≤ s.size ∧ i = .int .i64 k ∧ Hid (∀ j, j < k → bt s j ≠ 44)) (fun i => s.size - (intOf i).toNat)
  case atStart => exact ⟨0, by omega, rfl, Lib.hid fun j hj => absurd hj (Nat.not_lt_zero _)⟩
  case round =>
    obtain ⟨k, hk, rfl, HB⟩ := hrel
    by_cases hlt : k < s.size
    · have hk2 : (k : Int) < (s.size : Int) := by omega
      cases hz : (bt s k == 44)
      · have HZ := Lib.hid hz
        go_wp2_with fail
        go_round
        case rel => exact ⟨k + 1, by omega, by go_num, Lib.hid fun j hj => by
          by_cases q : j = k
          · subst q; simpa using HZ.out
          · exact HB.out j (by omega)⟩
        case measure => simp [intOf]; omega
      · go_wp2_with fail
        go_ret
        exact ⟨rfl, true, rfl, fun h => by cases h⟩
    · obtain rfl : k = s.size := by omega
      go_wp2_with fail
      go_ret
      exact ⟨rfl, false, rfl, fun _ => HB.out⟩
theorem no_mem {s : ByteArray} (h : ∀ k, k < s.size → bt s k ≠ 44) : (44 : UInt8) ∉ s.data.toList := fun e => by
  obtain ⟨k, hk, e⟩ := (mem_bt s 44).1 e
  exact h k hk e
theorem seg_sc (m x : ByteArray) : seg (m ++ sc ++ x) = seg m := by
  unfold seg
  have : (m ++ sc ++ x).data.toList = m.data.toList ++ 59 :: x.data.toList := by simp [sc]
  rw [this, tw_cut]
def sfx (b : Bool) : ByteArray := if b then b64 else ⟨#[]⟩
theorem sfx_size (b : Bool) : (sfx b).size ≤ 7 := by cases b <;> decide
theorem sfx_no (b : Bool) : (44 : UInt8) ∉ (sfx b).data.toList := by cases b <;> decide
theorem seg_sfx (m : ByteArray) (b : Bool) : seg (m ++ sfx b) = seg m := by
  cases b
  · have : m ++ sfx false = m := ByteArray.append_empty
    rw [this]
  · have : m ++ sfx true = m ++ sc ++ ⟨#[98, 97, 115, 101, 54, 52]⟩ := by
      rw [ByteArray.append_assoc]; rfl
    rw [this, seg_sc]
theorem mt_of {a b : ByteArray} (h : seg a = seg b) : mt a = mt b := by unfold mt; rw [h]
theorem cat9 (x y : ByteArray) (h : x.size + y.size ≤ 4194304) : ∀ w : World, (binOp .add 9 (.string x) (.string y)).run Try.prog w = .ok (.string (x ++ y)) w := fun w => by
  simp [binOp, go_sem]
  omega
set_option maxRecDepth 100000 in
set_option maxHeartbeats 4000000 in
theorem main (m p d : ByteArray) (b : Bool) (w : World) : Calls Try.prog 5 #[.string m, .string p, .string d, .bool b] w fun e w' => e = .returned (.bool true) ∧ Below w.heap.size w w' := by
  go_enter Try.func5, Try.ntmps5
  go_wp2_with fail
  refine (zb m p d b _).mono ?_
  rintro e w1 ⟨rfl, v, rfl⟩
  cases v
  · go_wp2_with fail
    go_ret
    exact ⟨rfl, Below.refl _ _⟩
  by_cases g0 : (262144 : Int) < (m.size : Int)
  · go_wp2_with fail
    go_ret
    exact ⟨rfl, Below.refl _ _⟩
  by_cases g1 : (262144 : Int) < (p.size : Int)
  · go_wp2_with fail
    go_ret
    exact ⟨rfl, Below.refl _ _⟩
  by_cases g2 : (262144 : Int) < (d.size : Int)
  · go_wp2_with fail
    go_ret
    exact ⟨rfl, Below.refl _ _⟩
  go_wp2_with fail
  refine (cont m _ (by omega)).mono ?_
  rintro e w ⟨rfl, v, rfl, hv⟩
  have HV1 := Lib.hid hv
  clear hv
  cases v
  case true =>
    go_wp2_with fail
    go_ret
    exact ⟨rfl, Below.refl _ _⟩
  go_wp2_with fail
  refine (cont p _ (by omega)).mono ?_
  rintro e w ⟨rfl, v, rfl, hv⟩
  have HV2 := Lib.hid hv
  clear hv
  cases v
  case true =>
    go_wp2_with fail
    go_ret
    exact ⟨rfl, Below.refl _ _⟩
  have zx := sfx_size b
  obtain ⟨x, hx⟩ : ∃ x, sfx b = x := ⟨_, rfl⟩
  rw [hx] at zx
  have HXX := Lib.hid hx
  have zd : dt.size = 5 := rfl
  have zc : cm.size = 1 := rfl
  have zs : sc.size = 1 := rfl
  have k1 := cat9 dt m (by omega)
  have k2 := cat9 (dt ++ m) x (by simp; omega)
  have k3 := cat9 (dt ++ m ++ x) cm (by simp; omega)
  have k4 := cat9 (dt ++ m ++ x ++ cm) d (by simp; omega)
  have j1 := cat9 (dt ++ m) sc (by simp; omega)
  have j2 := cat9 (dt ++ m ++ sc) p (by simp; omega)
  have j3 := cat9 (dt ++ m ++ sc ++ p) x (by simp; omega)
  have j4 := cat9 (dt ++ m ++ sc ++ p ++ x) cm (by simp; omega)
  have j5 := cat9 (dt ++ m ++ sc ++ p ++ x ++ cm) d (by simp; omega)
  have U1 := Lib.hid (show dt ++ m ++ x ++ cm ++ d = dt ++ (m ++ x) ++ cm ++ d by simp [ByteArray.append_assoc])
  have U2 := Lib.hid (show dt ++ m ++ sc ++ p ++ x ++ cm ++ d = dt ++ (m ++ sc ++ p ++ x) ++ cm ++ d by simp [ByteArray.append_assoc])
  have Z := Lib.hid (show (m ++ x).size ≤ 1048576 ∧ (m ++ sc ++ p ++ x).size ≤ 1048576 ∧ d.size ≤ 1048576 by simp; omega)
  clear zd zc zs
  generalize h2 : dt ++ m ++ sc ++ p ++ x ++ cm ++ d = u2 at j5 U2
  generalize h1 : dt ++ m ++ x ++ cm ++ d = u1 at k4 U1
  have V1 := Lib.hid h1
  have V2 := Lib.hid h2
  clear h1 h2 hx zx k1 k2 k3 k4 j1 j2 j3 j4 j5
  have y1 : (⟨#[100, 97, 116, 97, 58]⟩ : ByteArray).size = 5 := rfl
  have y2 : (⟨#[44]⟩ : ByteArray).size = 1 := rfl
  have y3 : (⟨#[59]⟩ : ByteArray).size = 1 := rfl
  have y4 : x.size ≤ 7 := by rw [← HXX.out]; exact sfx_size b
  have N1 := Lib.hid (show (44 : UInt8) ∉ (m ++ x).data.toList by rw [← HXX.out]; simp only [ByteArray.data_append, Array.toList_append, List.mem_append, not_or]; exact ⟨no_mem (fun k hk => by first | exact HV1.out k hk | exact HV1.out trivial k hk | exact HV1.out rfl k hk), sfx_no b⟩)
  have N2 := Lib.hid (show (44 : UInt8) ∉ (m ++ sc ++ p ++ x).data.toList by rw [← HXX.out]; simp only [ByteArray.data_append, Array.toList_append, List.mem_append, not_or]; exact ⟨⟨⟨no_mem (fun k hk => by first | exact HV1.out k hk | exact HV1.out trivial k hk | exact HV1.out rfl k hk), by decide⟩, no_mem (fun k hk => by first | exact HV2.out k hk | exact HV2.out trivial k hk | exact HV2.out rfl k hk)⟩, sfx_no b⟩)
  have S1 := Lib.hid (show seg (m ++ x) = seg m by rw [← HXX.out, seg_sfx])
  have S2 := Lib.hid (show seg (m ++ sc ++ p ++ x) = seg m by rw [show m ++ sc ++ p ++ x = m ++ sc ++ (p ++ x) from ByteArray.append_assoc, seg_sc])
  clear HV1 HV2
  go_upto_if 39 with fail
  go_cut [9] (fun v wx => v = .string x ∧ wx = w)
  case first =>
    cases b
    · go_wp2_with fail
      go_meet
      exact ⟨by rw [← HXX.out]; rfl, rfl⟩
    · go_wp2_with fail
      go_meet
      exact ⟨by rw [← HXX.out]; rfl, rfl⟩
  case rest =>
    obtain ⟨rfl, rfl⟩ := hcut
    go_wp2_with fail
    refine (parse _ _ d _ (V1.out.trans U1.out) Z.out.1 Z.out.2.2 N1.out).mono ?_
    rintro e w1 ⟨r1, d1, b1, rfl, rfl, q1, z1⟩
    have Q1 := Lib.hid (And.intro q1 z1)
    clear q1 z1
    go_wp2_with fail
    refine (parse _ _ d _ (V2.out.trans U2.out) Z.out.2.1 Z.out.2.2 N2.out).mono ?_
    rintro e w1 ⟨r2, d2, b2, rfl, rfl, q2, z2⟩
    have Q2 := Lib.hid (And.intro q2 z2)
    clear q2 z2
    go_wp2_with fail
    have M := Lib.hid (show mt r1 = mt r2 from mt_of (by rw [Q1.out.1, Q2.out.1, S1.out, S2.out]))
    have R1 : r1.size ≤ 4194304 := Nat.le_trans Q1.out.2 (Nat.le_trans Z.out.1 (by omega))
    have R2 : r2.size ≤ 4194304 := Nat.le_trans Q2.out.2 (Nat.le_trans Z.out.2.1 (by omega))
    go_region_with (go_at_call 22; first
      | (with_reducible refine (dec22 r1 d1 b1 _ R1).mono ?_); rintro e w' ⟨rfl, rfl⟩
      | (with_reducible refine (dec22 r2 d2 b2 _ R2).mono ?_); rintro e w' ⟨rfl, rfl⟩)
    all_goals (go_wp2_with fail; go_ret; exact ⟨Aid.ret_bool (by rw [M.out]; exact beq_self_eq_true _), by (repeat' (first | exact Below.refl _ _ | refine Below.drewR ?_ | (refine Below.alloc ?_ (by simp; omega) _) | (refine Below.alloc ?_ (by simp) _) | (refine Below.setCell ?_ (by simp; omega) _) | (refine Below.setCell ?_ (by simp) _)))⟩)

set_option maxHeartbeats 2000000 in
theorem walk (a0 : ByteArray) (a1 : ByteArray) (a2 : ByteArray) (a3 : Bool) (w : World) (w0 : a0.size ≤ maxLen) (w1 : a1.size ≤ maxLen) (w2 : a2.size ≤ maxLen) :
    Calls Try.prog 5 #[.string a0, .string a1, .string a2, .bool a3] w fun e w' => e = .returned (.bool true) ∧ Below w.heap.size w w' := by
  exact main a0 a1 a2 a3 w

set_option maxRecDepth 100000 in
theorem lifted (os : Os) (started : os.Started) (H : Type) (enc : TypeId × Value → H) :
    ReturnsInHanded {} Try.checked os 5 .any (Rows.fnDecodeMIMETypeIgnoresParametersSpec.pre6 enc Try.prog Try.f5 Rows.fnDecodeMIMETypeIgnoresParametersRow.domain false) (Rows.fnDecodeMIMETypeIgnoresParametersSpec.post enc Try.prog Try.f5 false true false false) := by
  refine returnsInHanded_of_change (C := Try.checked) own started (by kernel_rfl) Try.func5
    (ChangeSpec.witness6 (enc := enc) (C := Try.checked) false ⟨#[], #[.string ByteArray.empty, .string ByteArray.empty, .string ByteArray.empty, .bool false], []⟩ 8 (by kernel_rfl) (by kernel_rfl) (by kernel_rfl) (by kernel_rfl)) ?_
  intro W base args ds gs before hval0 hW hcnd _
  have hval : ∀ (j : Nat) t v, Try.f5.params[j]? = some t → args[j]? = some v → Value.okWide Try.prog W .any base t v := hval0
  have hW' := hW
  obtain ⟨p, q, hA0, hV, rfl, hfz, hnd⟩ := hW
  have hA : DataW.TrodAll enc Try.prog W 0 (fun _ => true) true Try.f5.params.toList args.toList ds p := hA0
  rw [Try.params5] at hA hval
  obtain ⟨v0, vs0, d0, ds0, p0, q0, hargs, rfl, rfl, h0, r0⟩ := trodAll_cons hA
  obtain ⟨v1, vs1, d1, ds1, p1, q1, rfl, rfl, rfl, h1, r1⟩ := trodAll_cons r0
  obtain ⟨v2, vs2, d2, ds2, p2, q2, rfl, rfl, rfl, h2, r2⟩ := trodAll_cons r1
  obtain ⟨v3, vs3, d3, ds3, p3, q3, rfl, rfl, rfl, h3, r3⟩ := trodAll_cons r2
  obtain ⟨rfl, rfl, rfl⟩ := trodAll_nil r3
  obtain rfl : args = #[v0, v1, v2, v3] := by cases args; simp_all
  obtain ⟨rfl, rfl⟩ := trodVars_none hV
  obtain ⟨a0, rfl, rfl, rfl, w0⟩ := open_string Try.underlying9 (hval 0 9 v0 rfl rfl) h0
  obtain ⟨a1, rfl, rfl, rfl, w1⟩ := open_string Try.underlying9 (hval 1 9 v1 rfl rfl) h1
  obtain ⟨a2, rfl, rfl, rfl, w2⟩ := open_string Try.underlying9 (hval 2 9 v2 rfl rfl) h2
  obtain ⟨a3, rfl, rfl, rfl⟩ := open_bool Try.underlying4 (hval 3 4 v3 rfl rfl) h3
  clear hA0 hval0
  refine (walk a0 a1 a2 a3 W w0 w1 w2).mono fun e W' ⟨he, bel⟩ => ?_
  subst he
  exact ⟨_, rfl, _, _, _, [], _, [], hW', trodAll_mk1 (shut_bool Try.underlying4 _), (trodAll_cons_mk (shut_string Try.underlying9 w0) (trodAll_cons_mk (shut_string Try.underlying9 w1) (trodAll_cons_mk (shut_string Try.underlying9 w2) (trodAll_cons_mk (shut_bool Try.underlying4 _) trodAll_mk0)))), rfl, bel.frame _, fun h => by cases h⟩

theorem joined : joinedFacts Try.prog 5 Try.f5 Rows.fnDecodeMIMETypeIgnoresParametersSpec Rows.fnDecodeMIMETypeIgnoresParametersRow = true := by
  unfold joinedFacts
  rw [Facts.enter, Facts.lifts, Facts.make]
  kernel_rfl

theorem over : Rows.fnDecodeMIMETypeIgnoresParametersRow.holds Try.pinned (OpenSpec.ofChange Rows.fnDecodeMIMETypeIgnoresParametersSpec) :=
  OpenClaim.holds_of_wide 5 Try.f5 rfl rfl rfl rfl rfl rfl rfl ⟨rfl, rfl, rfl, rfl, rfl⟩ rfl rfl rfl rfl rfl (by kernel_rfl) Try.func5 joined
    (of_decide_eq_true (by kernel_rfl)) (by unfold Func.isWrapper; first | (rw [if_pos (by decide +kernel)]; kernel_rfl) | (rw [if_neg (by decide +kernel)]; exact ⟨rfl, rfl⟩))
    (fun os started H enc _ => lifted os started H enc)

theorem proved : Rows.FnDecodeMIMETypeIgnoresParametersSaid :=
  over
#print axioms proved
end Go.Proofs.Ytllnkckhafdikaa.fnDecodeMIMETypeIgnoresParameters
