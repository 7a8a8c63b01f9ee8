/- A dependency of the top-level package wins over the pool's entry; without it the pool's is returned; without a top-level package nothing is. No text of fmt's is met. No condition. -/
import Derived.Test.YtkkhfhbmcdpboaaFmtRows
import Derived.Test.YtkkhfhbmcdpboaaFmtCards
import Derived.WalkKit
import Derived.ProofKit
import Derived.OpenShut
import Derived.ShutString
import Derived.Stop.JoinedAt
import Derived.Stop.Texts
import Derived.Stop.JoinedTold
import Derived.SizedLaws
import Derived.SevenToldRow
import Derived.Test.YtkkhfhbmcdpboaaFmtAid
import Derived.Test.YtkkhfhbmcdpboaaFmtStr
import Derived.Test.YtkkhfhbmcdpboaaFmtMp
import Derived.Test.YtkkhfhbmcdpboaaFmtPb
import Derived.Test.YtkkhfhbmcdpboaaFmtFl
import Derived.Test.YtkkhfhbmcdpboaaFmtQd
import Derived.WalkSpells
import Derived.IntWalk
import Derived.Outline
import Derived.Deep.QuietTactic
import Derived.BigQuiet
namespace Go.Proofs.YtkkhfhbmcdpboaaFmt.fnFallbackTopLevelDependencyShadowsPool
open Go.ChangeShapes Go.WideShapes Go.ChangeAt Go.RowKit
open Go.ChangeMaps (open_string shut_string)
set_option linter.unusedVariables false

theorem own : ownKnob Tryf.prog.godebug = none := by kernel_rfl
theorem laidOut : laidOutB Tryf.prog = true := by kernel_rfl

open Str PlainAid Mp Pb Qd Go.Maps
theorem K9 : Keyed Tryf.prog 9 := string_keyed Tryf.underlying9
theorem key (s : ByteArray) (h : s.size ≤ maxLen) : keyOf Tryf.prog 9 (.string s) = some (.string s.data.toList) := Go.WideMaps.keyOf_string_mk Tryf.underlying9 h
def emS : ByteArray := ⟨#[]⟩
theorem z50 (w : World) : (zeroValue 50).run Tryf.prog w = .ok (.agg #[.string ⟨#[]⟩, .string ⟨#[]⟩, .int .i32 0, .int .i32 0]) w := by kernel_rfl
theorem z48 (w : World) : (zeroValue 48).run Tryf.prog w = .ok (.agg #[.map none, .string ⟨#[]⟩, .int .i32 0, .int .i32 0, .bool false]) w := by kernel_rfl
theorem z42 (w : World) : (zeroValue 42).run Tryf.prog w = .ok (.map none) w := by kernel_rfl
theorem mk31 (w : World) : (Instr.makeMap 31 none).run Tryf.prog w = .ok (.map (some w.heap.size)) (w.alloc (.map #[] 0)) := run_makeMap 31 w
theorem mk32 (w : World) : (Instr.makeMap 32 none).run Tryf.prog w = .ok (.map (some w.heap.size)) (w.alloc (.map #[] 0)) := run_makeMap 32 w
theorem mk42 (w : World) : (Instr.makeMap 42 none).run Tryf.prog w = .ok (.map (some w.heap.size)) (w.alloc (.map #[] 0)) := run_makeMap 42 w
def pnp (r pl : Option Nat) : Array Value := #[.map none, .map pl, .pointer none, .string ⟨#[]⟩, .map r, .map none, .bool false, .string ⟨#[]⟩, .string ⟨#[]⟩, .string ⟨#[]⟩, .int .i32 0, .int .i32 0, .int .i32 0, .int .i32 0, .bool false, .bool false, .bool false, .string ⟨#[]⟩, .string ⟨#[]⟩]
theorem new6 (w : World) : Calls Tryf.prog 6 #[] w fun e w' => e = .returned (.pointer (some ⟨w.heap.size + 1 + 1, 0, none⟩)) ∧ w' = ((w.alloc (.map #[] 0)).alloc (.map #[] 0)).alloc (.cells (pnp (some w.heap.size) (some (w.heap.size + 1))) 41) := by
  have h1 := mk31
  have h2 := mk32
  go_enter Tryf.func6, Tryf.ntmps6
  go_wp2_with fail
  go_ret
  exact ⟨rfl, rfl⟩
theorem new12 (w : World) : Calls Tryf.prog 12 #[] w fun e w' => e = .returned (.pointer (some ⟨w.heap.size, 0, none⟩)) ∧ w' = w.alloc (.cells (pnp none none) 41) := by
  go_enter Tryf.func12, Tryf.ntmps12
  go_wp2_with fail
  go_ret
  exact ⟨rfl, rfl⟩
/-- The manifest at p. -/
def Man (w : World) (p : Nat) (r pl : Option Nat) : Prop := w.heap[p]? = some (.cells (pnp r pl) 41 (0, 0))
theorem Man.c1 {w : World} {p : Nat} {r pl : Option Nat} (h : Man w p r pl) : w.cell? ⟨p, 1, none⟩ = some (.map pl) := by rw [cell_of_row w p 1 _ 41 _ h]; rfl
theorem Man.c4 {w : World} {p : Nat} {r pl : Option Nat} (h : Man w p r pl) : w.cell? ⟨p, 4, none⟩ = some (.map r) := by rw [cell_of_row w p 4 _ 41 _ h]; rfl
theorem Man.lt {w : World} {p : Nat} {r pl : Option Nat} (h : Man w p r pl) : p < w.heap.size := (Array.getElem?_eq_some_iff.1 h).1
theorem Man.chg {S : Nat → Prop} {w w' : World} {p : Nat} {r pl : Option Nat} (h : Man w p r pl) (hc : Chg S w w') (hn : ¬ S p) : Man w' p r pl := (hc.block p h.lt hn).trans h
theorem map_chg {S : Nat → Prop} {w w' : World} {k b : Nat} {M : Value → Option Value} (h : MapIs Tryf.prog k w b M) (hc : Chg S w w') (hn : ¬ S b) : MapIs Tryf.prog k w' b M := h.of_block (hc.block b h.lt hn)
theorem chg_set {S : Nat → Prop} {w w' : World} (h : Chg S w w') {b : Nat} (hb : S b ∨ w.heap.size ≤ b) (o : Obj) : Chg S w (Go.ChangeMaps.setBlock w' b o) :=
  ⟨h.os, h.tape, h.output, by rw [setBlock_size]; exact h.size, fun k hk hn => by
    rw [block_other _ _ _ _ (fun e => by
      subst e
      rcases hb with hb | hb
      · exact hn hb
      · omega)]
    exact h.block k hk hn⟩
def idr (i r : ByteArray) : Value := .agg #[.string i, .string r, .int .i32 0, .int .i32 0]
def pkg (d : Nat) (l : ByteArray) : Value := .agg #[.map (some d), .string l, .int .i32 0, .int .i32 0, .bool false]
def PI (w : World) (r : Nat) (M : Value → Option Value) (s : ByteArray) (e : Ending) (w' : World) : Prop :=
  e = .returned (.tuple #[]) ∧ ∃ i, w.heap.size ≤ i ∧ MapIs Tryf.prog 9 w' r (setM M (.string s) (.map (some i))) ∧ MapIs Tryf.prog 9 w' i noneM ∧ Chg (fun k => k = r) w w'
theorem fld48 (d : Nat) (l : ByteArray) (w : World) : (Instr.field 48 (.agg #[.map (some d), .string l, .int .i32 0, .int .i32 0, .bool false]) 0).run Tryf.prog w = .ok (.map (some d)) w := by kernel_rfl
theorem putI (p r : Nat) (pl : Option Nat) (M : Value → Option Value) (s : ByteArray) (w : World) (hp : Man w p (some r) pl) (hr : MapIs Tryf.prog 9 w r M) (hs : s.size ≤ maxLen) :
    Calls Tryf.prog 7 #[.pointer (some ⟨p, 0, none⟩), .string s] w (PI w r M s) := by
  have c4 := hp.c4
  have hpl := hp.lt
  have hrl := hr.lt
  have HU := Lib.hid ((hr.alloc (.map #[] 0)).update K9 Tryf.underlying31 (key s hs) (.map (some w.heap.size)))
  have HM := Lib.hid (MapIs.made Tryf.prog 9 w)
  have h1 := mk42
  clear hp hr
  go_enter Tryf.func7, Tryf.ntmps7
  go_wp2_with (at_mapUpdate; refine wpList_mapSet rfl _ _ _ 31 rfl rfl rfl rfl (R := fun w' => ∃ o, w' = Go.ChangeMaps.setBlock (w.alloc (.map #[] 0)) r o ∧ MapIs Tryf.prog 9 w' r (setM M (.string s) (.map (some w.heap.size)))) (by obtain ⟨o, h, hm⟩ := HU.out; exact ⟨_, h, o, rfl, hm⟩) ?_; rintro w' ⟨o, rfl, hm⟩; have HM2 := Lib.hid hm; clear hm)
  go_end0
  exact ⟨rfl, _, Nat.le_refl _, HM2.out, HM.out.of_block (block_other _ _ _ _ (by omega)), chg_set (S := fun k => k = r) ((Chg.refl _ _).alloc _) (.inl rfl) _⟩
def PP (w : World) (i : Nat) (M : Value → Option Value) (s l : ByteArray) (e : Ending) (w' : World) : Prop :=
  e = .returned (.tuple #[]) ∧ ∃ d, w.heap.size ≤ d ∧ MapIs Tryf.prog 9 w' i (setM M (.string s) (pkg d l)) ∧ MapIs Tryf.prog 9 w' d noneM ∧ Chg (fun k => k = i) w w'
set_option maxRecDepth 100000 in
theorem putP (p r i : Nat) (pl : Option Nat) (MR M : Value → Option Value) (s ref l : ByteArray) (w : World) (hp : Man w p (some r) pl) (hr : MapIs Tryf.prog 9 w r MR) (hv : MR (.string s) = some (.map (some i))) (hi : MapIs Tryf.prog 9 w i M) (hs : s.size ≤ maxLen) (hs2 : ref.size ≤ maxLen) :
    Calls Tryf.prog 8 #[.pointer (some ⟨p, 0, none⟩), .string s, .string ref, .string l] w (PP w i M ref l) := by
  have c4 := hp.c4
  have hpl := hp.lt
  have hil := hi.lt
  have HL := Lib.hid (hr.look K9 Tryf.underlying31 (key s hs) hv false)
  have HU := Lib.hid ((hi.alloc (.map #[] 0)).update K9 Tryf.underlying42 (key ref hs2) (pkg w.heap.size l))
  have HM := Lib.hid (MapIs.made Tryf.prog 9 w)
  have h1 := mk32
  clear hp hr hi hv
  go_enter Tryf.func8, Tryf.ntmps8
  go_wp2_with (first | (at_lookup; refine wpList_look rfl _ _ 31 false rfl rfl rfl HL.out ?_) | (at_mapUpdate; refine wpList_mapSet rfl _ _ _ 42 rfl rfl rfl rfl (R := fun w' => ∃ o, w' = Go.ChangeMaps.setBlock (w.alloc (.map #[] 0)) i o ∧ MapIs Tryf.prog 9 w' i (setM M (.string ref) (pkg w.heap.size l))) (by obtain ⟨o, h, hm⟩ := HU.out; exact ⟨_, h, o, rfl, hm⟩) ?_; rintro w' ⟨o, rfl, hm⟩; have HM2 := Lib.hid hm; clear hm))
  go_end0
  exact ⟨rfl, _, Nat.le_refl _, HM2.out, HM.out.of_block (block_other _ _ _ _ (by omega)), chg_set (S := fun k => k = i) ((Chg.refl _ _).alloc _) (.inl rfl) _⟩
def PD (w : World) (d : Nat) (M : Value → Option Value) (s i r : ByteArray) (e : Ending) (w' : World) : Prop :=
  e = .returned (.tuple #[]) ∧ MapIs Tryf.prog 9 w' d (setM M (.string s) (idr i r)) ∧ Chg (fun k => k = d) w w'
set_option maxRecDepth 100000 in
theorem putD (p r i d : Nat) (pl : Option Nat) (MR MI M : Value → Option Value) (s ref l q di dr : ByteArray) (w : World) (hp : Man w p (some r) pl) (hr : MapIs Tryf.prog 9 w r MR) (hv : MR (.string s) = some (.map (some i))) (hi : MapIs Tryf.prog 9 w i MI)
    (hv2 : MI (.string ref) = some (pkg d l)) (hd : MapIs Tryf.prog 9 w d M) (hs : s.size ≤ maxLen) (hs2 : ref.size ≤ maxLen) (hq : q.size ≤ maxLen) :
    Calls Tryf.prog 9 #[.pointer (some ⟨p, 0, none⟩), .string s, .string ref, .string q, .string di, .string dr] w (PD w d M q di dr) := by
  have hfl := fld48 d l
  have c4 := hp.c4
  have HL := Lib.hid (hr.look K9 Tryf.underlying31 (key s hs) hv false)
  have HL2 := Lib.hid (hi.look K9 Tryf.underlying42 (key ref hs2) hv2 false)
  have HU := Lib.hid (hd.update K9 Tryf.underlying32 (key q hq) (idr di dr))
  clear hp hr hi hv hv2 hd
  go_enter Tryf.func9, Tryf.ntmps9
  go_wp2_with (first | (at_lookup; refine wpList_look rfl _ _ 31 false rfl rfl rfl HL.out ?_) | (at_lookup; refine wpList_look rfl _ _ 42 false rfl rfl rfl HL2.out ?_; unfold pkg) | (at_mapUpdate; refine wpList_mapSet rfl _ _ _ 32 rfl rfl rfl rfl (R := fun w' => ∃ o, w' = Go.ChangeMaps.setBlock w d o ∧ MapIs Tryf.prog 9 w' d (setM M (.string q) (idr di dr))) (by obtain ⟨o, h, hm⟩ := HU.out; exact ⟨_, h, o, rfl, hm⟩) ?_; rintro w' ⟨o, rfl, hm⟩; have HM2 := Lib.hid hm; clear hm))
  go_end0
  exact ⟨rfl, HM2.out, chg_set (S := fun k => k = d) (Chg.refl _ _) (.inl rfl) _⟩
set_option maxRecDepth 100000 in
theorem putF (p pl : Nat) (r : Option Nat) (M : Value → Option Value) (q di dr : ByteArray) (w : World) (hp : Man w p r (some pl)) (hd : MapIs Tryf.prog 9 w pl M) (hq : q.size ≤ maxLen) :
    Calls Tryf.prog 10 #[.pointer (some ⟨p, 0, none⟩), .string q, .string di, .string dr] w (PD w pl M q di dr) := by
  have c1 := hp.c1
  have HU := Lib.hid (hd.update K9 Tryf.underlying32 (key q hq) (idr di dr))
  clear hp hd
  go_enter Tryf.func10, Tryf.ntmps10
  go_wp2_with (at_mapUpdate; refine wpList_mapSet rfl _ _ _ 32 rfl rfl rfl rfl (R := fun w' => ∃ o, w' = Go.ChangeMaps.setBlock w pl o ∧ MapIs Tryf.prog 9 w' pl (setM M (.string q) (idr di dr))) (by obtain ⟨o, h, hm⟩ := HU.out; exact ⟨_, h, o, rfl, hm⟩) ?_; rintro w' ⟨o, rfl, hm⟩; have HM2 := Lib.hid hm; clear hm)
  go_end0
  exact ⟨rfl, HM2.out, chg_set (S := fun k => k = pl) (Chg.refl _ _) (.inl rfl) _⟩
def rqV : Array Value := #[.pointer none, .pointer none, .pointer none, .int .u8 0]
def noPkg : Value := .agg #[.map none, .string ⟨#[]⟩, .int .i32 0, .int .i32 0, .bool false]
def noIdr : Value := .agg #[.string ⟨#[]⟩, .string ⟨#[]⟩, .int .i32 0, .int .i32 0]
theorem emK : keyOf Tryf.prog 9 (.string ⟨#[]⟩) = some (.string (⟨#[]⟩ : ByteArray).data.toList) := key ⟨#[]⟩ (Nat.zero_le _)
def GP (w : World) (v : Value) (b : Bool) (e : Ending) (w' : World) : Prop := e = .returned (.tuple #[v, .bool b]) ∧ Below w.heap.size w w'
set_option maxRecDepth 100000 in
theorem get_y (p r i d : Nat) (pl : Option Nat) (MR MI : Value → Option Value) (l : ByteArray) (w : World) (hp : Man w p (some r) pl) (hr : MapIs Tryf.prog 9 w r MR) (hv : MR (.string ⟨#[]⟩) = some (.map (some i))) (hi : MapIs Tryf.prog 9 w i MI)
    (hv2 : MI (.string ⟨#[]⟩) = some (pkg d l)) :
    Calls Tryf.prog 14 #[.agg rqV, .pointer (some ⟨p, 0, none⟩), .string ⟨#[]⟩, .string ⟨#[]⟩] w (GP w (pkg d l) true) := by
  have c4 := hp.c4
  have hpl := hp.lt
  have HL := Lib.hid ((((hr.alloc (.cells rqV 57)).alloc (.cells #[.map none, .string ⟨#[]⟩, .int .i32 0, .int .i32 0, .bool false] 48))).look K9 Tryf.underlying31 emK hv true)
  have HL2 := Lib.hid ((((hi.alloc (.cells rqV 57)).alloc (.cells #[.map none, .string ⟨#[]⟩, .int .i32 0, .int .i32 0, .bool false] 48))).look K9 Tryf.underlying42 emK hv2 true)
  clear hp hr hi hv hv2
  unfold rqV pkg at *
  go_enter Tryf.func14, Tryf.ntmps14
  go_wp2_with (first | (at_lookup; refine wpList_look rfl _ _ 31 true rfl rfl rfl HL.out ?_) | (at_lookup; refine wpList_look rfl _ _ 42 true rfl rfl rfl HL2.out ?_))
  exact bodyPost_ret (v := .tuple #[.agg #[.map (some d), .string l, .int .i32 0, .int .i32 0, .bool false], .bool true]) (by simp [results, Tryf.results14, go_sem]) rfl ⟨rfl, by (repeat' (first | exact Below.refl _ _ | refine Below.drewR ?_ | (refine Below.alloc ?_ (by simp; omega) _) | (refine Below.alloc ?_ (by simp) _) | (refine Below.setCell ?_ (by simp; omega) _) | (refine Below.setCell ?_ (by simp) _)))⟩
set_option maxRecDepth 100000 in
theorem get_n (p r : Nat) (pl : Option Nat) (MR : Value → Option Value) (w : World) (hp : Man w p (some r) pl) (hr : MapIs Tryf.prog 9 w r MR) (hv : MR (.string ⟨#[]⟩) = none) :
    Calls Tryf.prog 14 #[.agg rqV, .pointer (some ⟨p, 0, none⟩), .string ⟨#[]⟩, .string ⟨#[]⟩] w (GP w noPkg false) := by
  have c4 := hp.c4
  have hpl := hp.lt
  have HL := Lib.hid ((((hr.alloc (.cells rqV 57)).alloc (.cells #[.map none, .string ⟨#[]⟩, .int .i32 0, .int .i32 0, .bool false] 48))).look_no K9 Tryf.underlying31 emK hv (z42 _) true)
  clear hp hr hv
  unfold rqV noPkg at *
  go_enter Tryf.func14, Tryf.ntmps14
  go_wp2_with (at_lookup; refine wpList_look rfl _ _ 31 true rfl rfl rfl HL.out ?_)
  exact bodyPost_ret (v := .tuple #[.agg #[.map none, .string ⟨#[]⟩, .int .i32 0, .int .i32 0, .bool false], .bool false]) (by simp [results, Tryf.results14, go_sem]) rfl ⟨rfl, by (repeat' (first | exact Below.refl _ _ | refine Below.drewR ?_ | (refine Below.alloc ?_ (by simp; omega) _) | (refine Below.alloc ?_ (by simp) _) | (refine Below.setCell ?_ (by simp; omega) _) | (refine Below.setCell ?_ (by simp) _)))⟩
set_option maxRecDepth 100000 in
theorem get_nil (p : Nat) (pl : Option Nat) (w : World) (hp : Man w p none pl) :
    Calls Tryf.prog 14 #[.agg rqV, .pointer (some ⟨p, 0, none⟩), .string ⟨#[]⟩, .string ⟨#[]⟩] w (GP w noPkg false) := by
  have c4 := hp.c4
  have hpl := hp.lt
  have HL := fun w1 : World => Lib.hid (look_nil (w := w1) K9 Tryf.underlying31 emK (z42 w1) true)
  clear hp
  unfold rqV noPkg at *
  go_enter Tryf.func14, Tryf.ntmps14
  go_wp2_with (at_lookup; refine wpList_look rfl _ _ 31 true rfl rfl rfl (HL _).out ?_)
  exact bodyPost_ret (v := .tuple #[.agg #[.map none, .string ⟨#[]⟩, .int .i32 0, .int .i32 0, .bool false], .bool false]) (by simp [results, Tryf.results14, go_sem]) rfl ⟨rfl, by (repeat' (first | exact Below.refl _ _ | refine Below.drewR ?_ | (refine Below.alloc ?_ (by simp; omega) _) | (refine Below.alloc ?_ (by simp) _) | (refine Below.setCell ?_ (by simp; omega) _) | (refine Below.setCell ?_ (by simp) _)))⟩
theorem cells4 {w : World} {b : Nat} {t : TypeId} {v0 v1 v2 v3 : Value} (h : w.heap[b]? = some (.cells #[v0, v1, v2, v3] t (0, 0))) :
    w.cell? ⟨b, 0, none⟩ = some v0 ∧ w.cell? ⟨b, 1, none⟩ = some v1 ∧ w.cell? ⟨b, 2, none⟩ = some v2 ∧ w.cell? ⟨b, 3, none⟩ = some v3 :=
  ⟨by rw [cell_of_row w b 0 _ t _ h]; rfl, by rw [cell_of_row w b 1 _ t _ h]; rfl, by rw [cell_of_row w b 2 _ t _ h]; rfl, by rw [cell_of_row w b 3 _ t _ h]; rfl⟩
theorem two_blocks (w w1 : World) (c0 c1 : Array Value) (t0 t1 : TypeId) (hb : Below ((w.alloc (.cells c0 t0)).alloc (.cells c1 t1)).heap.size ((w.alloc (.cells c0 t0)).alloc (.cells c1 t1)) w1) :
    w1.heap[w.heap.size]? = some (.cells c0 t0 (0, 0)) ∧ w1.heap[w.heap.size + 1]? = some (.cells c1 t1 (0, 0)) ∧ w.heap.size + 2 ≤ w1.heap.size := by
  have hz := hb.size
  simp at hz
  refine ⟨?_, ?_, by omega⟩
  · rw [hb.block _ (by simp; omega), Below.heap_alloc _ _ _ (by simp)]; exact heap_alloc_new _ _
  · rw [hb.block _ (by simp)]
    have := heap_alloc_new (w.alloc (.cells c0 t0)) (.cells c1 t1)
    simpa using this
set_option maxRecDepth 100000 in
theorem res_no (p : Nat) (r pl : Option Nat) (q : ByteArray) (w : World) (HG : ∀ w1, Below w.heap.size w w1 → Calls Tryf.prog 14 #[.agg rqV, .pointer (some ⟨p, 0, none⟩), .string ⟨#[]⟩, .string ⟨#[]⟩] w1 (GP w1 noPkg false)) :
    Calls Tryf.prog 13 #[.agg rqV, .pointer (some ⟨p, 0, none⟩), .string q] w (GP w noIdr false) := by
  have H := Lib.hid HG
  clear HG
  have B0 := Lib.hid (show Below w.heap.size w ((w.alloc (.cells rqV 57)).alloc (.cells #[.string ⟨#[]⟩, .string ⟨#[]⟩, .int .i32 0, .int .i32 0] 50)) from by (repeat' (first | exact Below.refl _ _ | refine Below.drewR ?_ | (refine Below.alloc ?_ (by simp; omega) _) | (refine Below.alloc ?_ (by simp) _) | (refine Below.setCell ?_ (by simp; omega) _) | (refine Below.setCell ?_ (by simp) _))))
  unfold noIdr
  unfold rqV at *
  go_enter Tryf.func13, Tryf.ntmps13
  go_wp2_with fail
  refine (H.out _ B0.out).mono ?_
  rintro e w1 ⟨rfl, hb⟩
  unfold noPkg
  obtain ⟨h0, h1, hz⟩ := two_blocks _ _ _ _ _ _ hb
  obtain ⟨a0, a1, a2, a3⟩ := cells4 h0
  obtain ⟨b0, b1, b2, b3⟩ := cells4 h1
  have f0 := frozen_of_row w1 (w.heap.size + 1) 0 _ 50 h1
  have f1 := frozen_of_row w1 (w.heap.size + 1) 1 _ 50 h1
  have f2 := frozen_of_row w1 (w.heap.size + 1) 2 _ 50 h1
  have f3 := frozen_of_row w1 (w.heap.size + 1) 3 _ 50 h1
  have z0 : w.heap.size < w1.heap.size := by omega
  have z1 : w.heap.size + 1 < w1.heap.size := by omega
  have HB := Lib.hid (B0.out.trans (hb.mono B0.out.size))
  clear hb h0 h1
  go_wp2_with fail
  exact bodyPost_ret (v := .tuple #[.agg #[.string ⟨#[]⟩, .string ⟨#[]⟩, .int .i32 0, .int .i32 0], .bool false]) (by simp [results, Tryf.results13, go_sem, b0, b1, b2, b3, z1]) rfl ⟨rfl, by (repeat' (first | exact HB.out | (refine Below.alloc ?_ (by first | omega | (simp; omega)) _) | (refine Below.setCell ?_ (by simp; omega) _) | (refine Below.setCell ?_ (by simp) _)))⟩
set_option maxHeartbeats 1000000 in
set_option maxRecDepth 100000 in
theorem res_top (p r i d : Nat) (pl : Option Nat) (MR MI MD : Value → Option Value) (l q : ByteArray) (w : World) (hp : Man w p (some r) pl) (hr : MapIs Tryf.prog 9 w r MR) (hv : MR (.string ⟨#[]⟩) = some (.map (some i))) (hi : MapIs Tryf.prog 9 w i MI)
    (hv2 : MI (.string ⟨#[]⟩) = some (pkg d l)) (hd : MapIs Tryf.prog 9 w d MD) (hq : q.size ≤ maxLen) (a b : ByteArray) (hv3 : MD (.string q) = some (idr a b)) :
    Calls Tryf.prog 13 #[.agg rqV, .pointer (some ⟨p, 0, none⟩), .string q] w (GP w (idr a b) true) := by
  have B0 := Lib.hid (show Below w.heap.size w ((w.alloc (.cells rqV 57)).alloc (.cells #[.string ⟨#[]⟩, .string ⟨#[]⟩, .int .i32 0, .int .i32 0] 50)) from by (repeat' (first | exact Below.refl _ _ | refine Below.drewR ?_ | (refine Below.alloc ?_ (by simp; omega) _) | (refine Below.alloc ?_ (by simp) _) | (refine Below.setCell ?_ (by simp; omega) _) | (refine Below.setCell ?_ (by simp) _))))
  have HG := Lib.hid (get_y p r i d pl MR MI l ((w.alloc (.cells rqV 57)).alloc (.cells #[.string ⟨#[]⟩, .string ⟨#[]⟩, .int .i32 0, .int .i32 0] 50)) ((B0.out.block p hp.lt).trans hp) ((hr.alloc _).alloc _) hv ((hi.alloc _).alloc _) hv2)
  have HD := Lib.hid hd
  have HV := Lib.hid hv3
  have HK := Lib.hid (key q hq)
  clear hp hr hv hi hv2 hd hv3
  unfold idr
  unfold rqV at *
  go_enter Tryf.func13, Tryf.ntmps13
  go_wp2_with fail
  refine HG.out.mono ?_
  rintro e w1 ⟨rfl, hb⟩
  unfold pkg
  obtain ⟨h0, h1, hz⟩ := two_blocks _ _ _ _ _ _ hb
  obtain ⟨a0, a1, a2, a3⟩ := cells4 h0
  obtain ⟨b0, b1, b2, b3⟩ := cells4 h1
  have f0 := frozen_of_row w1 (w.heap.size + 1) 0 _ 50 h1
  have f1 := frozen_of_row w1 (w.heap.size + 1) 1 _ 50 h1
  have f2 := frozen_of_row w1 (w.heap.size + 1) 2 _ 50 h1
  have f3 := frozen_of_row w1 (w.heap.size + 1) 3 _ 50 h1
  have z0 : w.heap.size < w1.heap.size := by omega
  have z1 : w.heap.size + 1 < w1.heap.size := by omega
  have HD1 := Lib.hid (HD.out.below (B0.out.trans (hb.mono B0.out.size)) HD.out.lt)
  have HB := Lib.hid (B0.out.trans (hb.mono B0.out.size))
  clear hb h0 h1
  go_wp2_with (at_lookup; refine wpList_look rfl _ _ 32 true rfl rfl rfl ((HD1.out.alloc _).look K9 Tryf.underlying32 HK.out HV.out true) ?_; unfold idr)
  exact bodyPost_ret (v := .tuple #[.agg #[.string a, .string b, .int .i32 0, .int .i32 0], .bool true]) (by simp [results, Tryf.results13, go_sem, b0, b1, b2, b3, z0, z1]) rfl ⟨rfl, by (repeat' (first | exact HB.out | (refine Below.alloc ?_ (by first | omega | (simp; omega)) _) | (refine Below.setCell ?_ (by simp; omega) _) | (refine Below.setCell ?_ (by simp) _)))⟩
set_option maxHeartbeats 1000000 in
set_option maxRecDepth 100000 in
theorem res_pool (p r i d pl : Nat) (MR MI MD : Value → Option Value) (l q : ByteArray) (w : World) (hp : Man w p (some r) (some pl)) (hr : MapIs Tryf.prog 9 w r MR) (hv : MR (.string ⟨#[]⟩) = some (.map (some i))) (hi : MapIs Tryf.prog 9 w i MI)
    (hv2 : MI (.string ⟨#[]⟩) = some (pkg d l)) (hd : MapIs Tryf.prog 9 w d MD) (hq : q.size ≤ maxLen) (a b : ByteArray) (hv3 : MD (.string q) = none) (MP : Value → Option Value) (hpo : MapIs Tryf.prog 9 w pl MP) (hv4 : MP (.string q) = some (idr a b)) :
    Calls Tryf.prog 13 #[.agg rqV, .pointer (some ⟨p, 0, none⟩), .string q] w (GP w (idr a b) true) := by
  have B0 := Lib.hid (show Below w.heap.size w ((w.alloc (.cells rqV 57)).alloc (.cells #[.string ⟨#[]⟩, .string ⟨#[]⟩, .int .i32 0, .int .i32 0] 50)) from by (repeat' (first | exact Below.refl _ _ | refine Below.drewR ?_ | (refine Below.alloc ?_ (by simp; omega) _) | (refine Below.alloc ?_ (by simp) _) | (refine Below.setCell ?_ (by simp; omega) _) | (refine Below.setCell ?_ (by simp) _))))
  have HG := Lib.hid (get_y p r i d (some pl) MR MI l ((w.alloc (.cells rqV 57)).alloc (.cells #[.string ⟨#[]⟩, .string ⟨#[]⟩, .int .i32 0, .int .i32 0] 50)) ((B0.out.block p hp.lt).trans hp) ((hr.alloc _).alloc _) hv ((hi.alloc _).alloc _) hv2)
  have HD := Lib.hid hd
  have HV := Lib.hid hv3
  have HP := Lib.hid hpo
  have HV4 := Lib.hid hv4
  have hc1 := hp.c1
  have hpl := hp.lt
  have HK := Lib.hid (key q hq)
  clear hp hr hv hi hv2 hd hv3 hpo hv4
  unfold idr
  unfold rqV at *
  go_enter Tryf.func13, Tryf.ntmps13
  go_wp2_with fail
  refine HG.out.mono ?_
  rintro e w1 ⟨rfl, hb⟩
  unfold pkg
  obtain ⟨h0, h1, hz⟩ := two_blocks _ _ _ _ _ _ hb
  obtain ⟨a0, a1, a2, a3⟩ := cells4 h0
  obtain ⟨b0, b1, b2, b3⟩ := cells4 h1
  have f0 := frozen_of_row w1 (w.heap.size + 1) 0 _ 50 h1
  have f1 := frozen_of_row w1 (w.heap.size + 1) 1 _ 50 h1
  have f2 := frozen_of_row w1 (w.heap.size + 1) 2 _ 50 h1
  have f3 := frozen_of_row w1 (w.heap.size + 1) 3 _ 50 h1
  have z0 : w.heap.size < w1.heap.size := by omega
  have z1 : w.heap.size + 1 < w1.heap.size := by omega
  have HD1 := Lib.hid (HD.out.below (B0.out.trans (hb.mono B0.out.size)) HD.out.lt)
  have HP1 := Lib.hid (HP.out.below (B0.out.trans (hb.mono B0.out.size)) HP.out.lt)
  have p1 : w1.cell? ⟨p, 1, none⟩ = some (.map (some pl)) := by rw [(B0.out.trans (hb.mono B0.out.size)).cell (p := ⟨p, 1, none⟩) hpl]; exact hc1
  have p2 : p < w1.heap.size := by omega
  have p3 : p < w1.heap.size + 1 := by omega
  clear hc1
  have HB := Lib.hid (B0.out.trans (hb.mono B0.out.size))
  clear hb h0 h1
  go_wp2_with (first | (at_lookup; refine wpList_look rfl _ _ 32 true rfl (mv := .map (some d)) rfl rfl ((HD1.out.alloc _).look_no K9 Tryf.underlying32 HK.out HV.out (z50 _) true) ?_) | (at_lookup; refine wpList_look rfl _ _ 32 true rfl (mv := .map (some pl)) rfl rfl (((HP1.out.alloc _).alloc _).look K9 Tryf.underlying32 HK.out HV4.out true) ?_; unfold idr))
  exact bodyPost_ret (v := .tuple #[.agg #[.string a, .string b, .int .i32 0, .int .i32 0], .bool true]) (by simp [results, Tryf.results13, go_sem, b0, b1, b2, b3, z0, z1]) rfl ⟨rfl, by (repeat' (first | exact HB.out | (refine Below.alloc ?_ (by first | omega | (simp; omega)) _) | (refine Below.setCell ?_ (by simp; omega) _) | (refine Below.setCell ?_ (by simp) _)))⟩
def R3 (w : World) (a b : ByteArray) (k : Bool) (e : Ending) (w' : World) : Prop := e = .returned (.tuple #[.string a, .string b, .bool k]) ∧ Below w.heap.size w w'
set_option maxRecDepth 100000 in
theorem r11 (p : Nat) (q a b : ByteArray) (k : Bool) (w : World) (h : Calls Tryf.prog 13 #[.agg rqV, .pointer (some ⟨p, 0, none⟩), .string q] w (GP w (idr a b) k)) :
    Calls Tryf.prog 11 #[.pointer (some ⟨p, 0, none⟩), .string q] w (R3 w a b k) := by
  have H := Lib.hid h
  clear h
  unfold rqV at *
  go_enter Tryf.func11, Tryf.ntmps11
  go_wp2_with fail
  refine H.out.mono ?_
  rintro e w1 ⟨rfl, hb⟩
  have HB := Lib.hid hb
  clear hb
  unfold idr
  go_wp2_with fail
  go_quiet (fail)
  go_wp2_with fail
  exact bodyPost_ret (v := .tuple #[.string a, .string b, .bool k]) (by simp [results, Tryf.results11, go_sem]) rfl ⟨rfl, below_drewN (HB.out.alloc HB.out.size _) _⟩
def On (w : World) (e : Ending) (w' : World) : Prop := w' = w ∧ ∃ n : Int, e = .returned (.int .i64 n) ∧ 0 ≤ n ∧ n ≤ 2097152
theorem one5 (s : ByteArray) (w : World) (hs : s.size ≤ maxLen) : Calls Tryf.prog 5 #[.string s] w (On w) := by
  unfold maxLen at hs
  by_cases h : (1048576 : Int) < (s.size : Int)
  · go_enter Tryf.func5, Tryf.ntmps5
    go_wp2_with fail
    go_ret
    exact ⟨rfl, _, rfl, by omega, by omega⟩
  · go_enter Tryf.func5, Tryf.ntmps5
    go_wp2_with fail
    go_ret
    exact ⟨rfl, _, rfl, by omega, by omega⟩
/-- A manifest with its two tables, all above B. -/
def St (B : Nat) (w : World) (p r pl : Nat) (MR MP : Value → Option Value) : Prop :=
  Man w p (some r) (some pl) ∧ MapIs Tryf.prog 9 w r MR ∧ MapIs Tryf.prog 9 w pl MP ∧ r ≠ pl ∧ r ≠ p ∧ pl ≠ p ∧ B ≤ r ∧ B ≤ pl ∧ B ≤ p ∧ B ≤ w.heap.size
/-- A map beside it. -/
def Own (B : Nat) (w : World) (p r pl i : Nat) (M : Value → Option Value) : Prop := MapIs Tryf.prog 9 w i M ∧ i ≠ r ∧ i ≠ pl ∧ i ≠ p ∧ B ≤ i
section
variable {B p r pl i d : Nat} {MR MP M N : Value → Option Value} {w w' : World} {s l x y : ByteArray} {e : Ending}
theorem below_chg {k : Nat} (h : Chg (fun j => j = k) w w') (hB : B ≤ w.heap.size) (hk : B ≤ k) : Below B w w' := h.below hB fun j hj => by omega
theorem St.new (w : World) : St w.heap.size (((w.alloc (.map #[] 0)).alloc (.map #[] 0)).alloc (.cells (pnp (some w.heap.size) (some (w.heap.size + 1))) 41)) (w.heap.size + 1 + 1) w.heap.size (w.heap.size + 1) noneM noneM := by
  have m1 := MapIs.made Tryf.prog 9 w
  have m2 := MapIs.made Tryf.prog 9 (w.alloc (.map #[] 0))
  have m3 := heap_alloc_new ((w.alloc (.map #[] 0)).alloc (.map #[] 0)) (.cells (pnp (some w.heap.size) (some (w.heap.size + 1))) 41)
  refine ⟨by simpa [Man] using m3, (m1.alloc _).alloc _, ?_, by omega, by omega, by omega, by omega, by omega, by omega, by simp; omega⟩
  have := m2.alloc (.cells (pnp (some w.heap.size) (some (w.heap.size + 1))) 41)
  simpa using this
theorem St.putI (h : St B w p r pl MR MP) (hc : PI w r MR s e w') : ∃ i, St B w' p r pl (setM MR (.string s) (.map (some i))) MP ∧ Own B w' p r pl i noneM ∧ Below B w w' := by
  obtain ⟨h1, h2, h3, h4, h5, h6, h7, h8, h9, h10⟩ := h
  obtain ⟨_, i, hi, q1, q2, q3⟩ := hc
  have := h1.lt
  have := h2.lt
  have := h3.lt
  exact ⟨i, ⟨h1.chg q3 (fun e => h5 e.symm), q1, map_chg h3 q3 (fun e => h4 e.symm), h4, h5, h6, h7, h8, h9, Nat.le_trans h10 q3.size⟩, ⟨q2, by omega, by omega, by omega, by omega⟩, below_chg q3 h10 h7⟩
theorem St.putP (h : St B w p r pl MR MP) (ho : Own B w p r pl i M) (hc : PP w i M s l e w') :
    ∃ d, St B w' p r pl MR MP ∧ Own B w' p r pl i (setM M (.string s) (pkg d l)) ∧ Own B w' p r pl d noneM ∧ d ≠ i ∧ Below B w w' := by
  obtain ⟨h1, h2, h3, h4, h5, h6, h7, h8, h9, h10⟩ := h
  obtain ⟨o1, o2, o3, o4, o5⟩ := ho
  obtain ⟨_, d, hd, q1, q2, q3⟩ := hc
  have := h1.lt
  have := h2.lt
  have := h3.lt
  have := o1.lt
  exact ⟨d, ⟨h1.chg q3 (fun e => o4 e.symm), map_chg h2 q3 (fun e => o2 e.symm), map_chg h3 q3 (fun e => o3 e.symm), h4, h5, h6, h7, h8, h9, Nat.le_trans h10 q3.size⟩, ⟨q1, o2, o3, o4, o5⟩, ⟨q2, by omega, by omega, by omega, by omega⟩, by omega, below_chg q3 h10 o5⟩
theorem St.putD (h : St B w p r pl MR MP) (hi : Own B w p r pl i N) (ho : Own B w p r pl d M) (hdi : d ≠ i) (hc : PD w d M s x y e w') :
    St B w' p r pl MR MP ∧ Own B w' p r pl i N ∧ Own B w' p r pl d (setM M (.string s) (idr x y)) ∧ Below B w w' := by
  obtain ⟨h1, h2, h3, h4, h5, h6, h7, h8, h9, h10⟩ := h
  obtain ⟨i1, i2, i3, i4, i5⟩ := hi
  obtain ⟨o1, o2, o3, o4, o5⟩ := ho
  obtain ⟨_, q1, q3⟩ := hc
  exact ⟨⟨h1.chg q3 (fun e => o4 e.symm), map_chg h2 q3 (fun e => o2 e.symm), map_chg h3 q3 (fun e => o3 e.symm), h4, h5, h6, h7, h8, h9, Nat.le_trans h10 q3.size⟩, ⟨map_chg i1 q3 (fun e => hdi e.symm), i2, i3, i4, i5⟩, ⟨q1, o2, o3, o4, o5⟩, below_chg q3 h10 o5⟩
theorem St.putF (h : St B w p r pl MR MP) (hc : PD w pl MP s x y e w') : St B w' p r pl MR (setM MP (.string s) (idr x y)) ∧ Below B w w' ∧ ∀ i M, Own B w p r pl i M → Own B w' p r pl i M := by
  obtain ⟨h1, h2, h3, h4, h5, h6, h7, h8, h9, h10⟩ := h
  obtain ⟨_, q1, q3⟩ := hc
  exact ⟨⟨h1.chg q3 (fun e => h6 e.symm), map_chg h2 q3 h4, q1, h4, h5, h6, h7, h8, h9, Nat.le_trans h10 q3.size⟩, below_chg q3 h10 h8, fun i M ⟨o1, o2, o3, o4, o5⟩ => ⟨map_chg o1 q3 o3, o2, o3, o4, o5⟩⟩
end
def Bl (w : World) (e : Ending) (w' : World) : Prop := w' = w ∧ ∃ v, e = .returned (.bool v)
theorem zb (s0 : ByteArray) (s1 : ByteArray) (s2 : ByteArray) (s3 : ByteArray) (s4 : ByteArray) (w : World) : Calls Tryf.prog 4 #[.string s0, .string s1, .string s2, .string s3, .string s4] w (Bl w) := by
  by_cases h0 : (1048576 : Int) < (s0.size : Int)
  · go_enter Tryf.func4, Tryf.ntmps4
    go_wp2_with fail
    go_ret
    exact ⟨rfl, _, rfl⟩
  have e0 : IntKind.i64.wrap ((s0.size : Int)) = (s0.size : Int) := IntWalk.i64_in _ (by omega)
  by_cases h1 : (1048576 : Int) < (s1.size : Int)
  · go_enter Tryf.func4, Tryf.ntmps4
    go_wp2_with fail
    go_ret
    exact ⟨rfl, _, rfl⟩
  have e1 : IntKind.i64.wrap ((s0.size : Int) + (s1.size : Int)) = (s0.size : Int) + (s1.size : Int) := IntWalk.i64_in _ (by omega)
  by_cases g1 : (1048576 : Int) < (s0.size : Int) + (s1.size : Int)
  · go_enter Tryf.func4, Tryf.ntmps4
    go_wp2_with fail
    go_ret
    exact ⟨rfl, _, rfl⟩
  by_cases h2 : (1048576 : Int) < (s2.size : Int)
  · go_enter Tryf.func4, Tryf.ntmps4
    go_wp2_with fail
    go_ret
    exact ⟨rfl, _, rfl⟩
  have e2 : IntKind.i64.wrap ((s0.size : Int) + (s1.size : Int) + (s2.size : Int)) = (s0.size : Int) + (s1.size : Int) + (s2.size : Int) := IntWalk.i64_in _ (by omega)
  by_cases g2 : (1048576 : Int) < (s0.size : Int) + (s1.size : Int) + (s2.size : Int)
  · go_enter Tryf.func4, Tryf.ntmps4
    go_wp2_with fail
    go_ret
    exact ⟨rfl, _, rfl⟩
  by_cases h3 : (1048576 : Int) < (s3.size : Int)
  · go_enter Tryf.func4, Tryf.ntmps4
    go_wp2_with fail
    go_ret
    exact ⟨rfl, _, rfl⟩
  have e3 : IntKind.i64.wrap ((s0.size : Int) + (s1.size : Int) + (s2.size : Int) + (s3.size : Int)) = (s0.size : Int) + (s1.size : Int) + (s2.size : Int) + (s3.size : Int) := IntWalk.i64_in _ (by omega)
  by_cases g3 : (1048576 : Int) < (s0.size : Int) + (s1.size : Int) + (s2.size : Int) + (s3.size : Int)
  · go_enter Tryf.func4, Tryf.ntmps4
    go_wp2_with fail
    go_ret
    exact ⟨rfl, _, rfl⟩
  by_cases h4 : (1048576 : Int) < (s4.size : Int)
  · go_enter Tryf.func4, Tryf.ntmps4
    go_wp2_with fail
    go_ret
    exact ⟨rfl, _, rfl⟩
  have e4 : IntKind.i64.wrap ((s0.size : Int) + (s1.size : Int) + (s2.size : Int) + (s3.size : Int) + (s4.size : Int)) = (s0.size : Int) + (s1.size : Int) + (s2.size : Int) + (s3.size : Int) + (s4.size : Int) := IntWalk.i64_in _ (by omega)
  by_cases g4 : (1048576 : Int) < (s0.size : Int) + (s1.size : Int) + (s2.size : Int) + (s3.size : Int) + (s4.size : Int)
  · go_enter Tryf.func4, Tryf.ntmps4
    go_wp2_with fail
    go_ret
    exact ⟨rfl, _, rfl⟩
  go_enter Tryf.func4, Tryf.ntmps4
  go_wp2_with fail
  go_ret
  exact ⟨rfl, _, rfl⟩
theorem beqS (s : ByteArray) : (s.toList == s.toList) = true := by simp
theorem pkg_of (d : Nat) : setM noneM (.string ⟨#[]⟩) (pkg d ⟨#[46, 47]⟩) (.string ⟨#[]⟩) = some (pkg d ⟨#[46, 47]⟩) := setM_same _ _ _
def NW (w : World) (e : Ending) (w' : World) : Prop := ∃ p r pl, e = .returned (.pointer (some ⟨p, 0, none⟩)) ∧ St w.heap.size w' p r pl noneM noneM ∧ Below w.heap.size w w'
theorem newP (w : World) : Calls Tryf.prog 6 #[] w (NW w) := by
  refine (new6 w).mono ?_
  rintro e w' ⟨rfl, rfl⟩
  exact ⟨_, _, _, rfl, St.new w, by (repeat' (first | exact Below.refl _ _ | refine Below.drewR ?_ | (refine Below.alloc ?_ (by simp; omega) _) | (refine Below.alloc ?_ (by simp) _) | (refine Below.setCell ?_ (by simp; omega) _) | (refine Below.setCell ?_ (by simp) _)))⟩
set_option maxHeartbeats 4000000 in
set_option maxRecDepth 100000 in
theorem main (q i1 r1 i2 r2 : ByteArray) (w : World) (hq : q.size ≤ maxLen) (h1 : i1.size ≤ maxLen) (h2 : r1.size ≤ maxLen) (h3 : i2.size ≤ maxLen) (h4 : r2.size ≤ maxLen) :
    Calls Tryf.prog 3 #[.string q, .string i1, .string r1, .string i2, .string r2] w fun e w' => e = .returned (.bool true) ∧ Below w.heap.size w w' := by
  have HQ := Lib.hid hq
  have H1 := Lib.hid h1
  have H2 := Lib.hid h2
  have H3 := Lib.hid h3
  have H4 := Lib.hid h4
  clear hq h1 h2 h3 h4
  go_enter Tryf.func3, Tryf.ntmps3
  go_wp2_with fail
  refine (zb q i1 r1 i2 r2 _).mono ?_
  rintro e w1 ⟨rfl, v, rfl⟩
  cases v
  · go_wp2_with fail
    go_ret
    exact ⟨rfl, Below.refl _ _⟩
  go_wp2_with fail
  refine (one5 q _ HQ.out).mono ?_
  rintro e w1 ⟨rfl, n1, rfl, a1, b1⟩
  go_wp2_with fail
  refine (one5 i1 _ H1.out).mono ?_
  rintro e w1 ⟨rfl, n2, rfl, a2, b2⟩
  go_wp2_with fail
  refine (one5 r1 _ H2.out).mono ?_
  rintro e w1 ⟨rfl, n3, rfl, a3, b3⟩
  go_wp2_with fail
  refine (one5 i2 _ H3.out).mono ?_
  rintro e w1 ⟨rfl, n4, rfl, a4, b4⟩
  go_wp2_with fail
  refine (one5 r2 _ H4.out).mono ?_
  rintro e w1 ⟨rfl, n5, rfl, a5, b5⟩
  by_cases hs : (1048576 : Int) < n1 + n2 + n3 + n4 + n5
  · go_wp2_with fail
    go_ret
    exact ⟨rfl, Below.refl _ _⟩
  go_wp2_with fail
  clear hs a1 b1 a2 b2 a3 b3 a4 b4 a5 b5
  have hne := beqS
  refine (newP _).mono ?_
  rintro e w2 ⟨p, r, pl, rfl, s2, b2⟩
  have S2 := Lib.hid s2
  have B2 := Lib.hid (b2)
  clear s2 b2
  go_wp2_with fail
  refine (putI p r _ _ ⟨#[]⟩ _ S2.out.1 S2.out.2.1 (Nat.zero_le _)).mono ?_
  intro e w3 hpost
  obtain ⟨i, s3, o3, b3⟩ := S2.out.putI hpost
  obtain ⟨rfl, _⟩ := hpost
  have S3 := Lib.hid s3
  have O3 := Lib.hid o3
  have B3 := Lib.hid (B2.out.trans (b3.mono (Nat.le_refl _)))
  clear s3 o3 b3
  go_wp2_with fail
  refine (putP p r i _ _ _ ⟨#[]⟩ ⟨#[]⟩ ⟨#[46, 47]⟩ _ S3.out.1 S3.out.2.1 (setM_same _ _ _) O3.out.1 (Nat.zero_le _) (Nat.zero_le _)).mono ?_
  intro e w4 hpost
  obtain ⟨d, s4, o4, p4, n4, b4⟩ := S3.out.putP O3.out hpost
  obtain ⟨rfl, _⟩ := hpost
  have S4 := Lib.hid s4
  have O4 := Lib.hid o4
  have P4 := Lib.hid p4
  have N4 := Lib.hid n4
  have B4 := Lib.hid (B3.out.trans (b4.mono (Nat.le_refl _)))
  clear s4 o4 p4 n4 b4
  go_wp2_with fail
  refine (putD p r i d _ _ _ _ ⟨#[]⟩ ⟨#[]⟩ ⟨#[46, 47]⟩ q i1 r1 _ S4.out.1 S4.out.2.1 (setM_same _ _ _) O4.out.1 (setM_same _ _ _) P4.out.1 (Nat.zero_le _) (Nat.zero_le _) HQ.out).mono ?_
  intro e w5 hpost
  obtain ⟨s5, o5, p5, b5⟩ := S4.out.putD O4.out P4.out N4.out hpost
  obtain ⟨rfl, _⟩ := hpost
  have S5 := Lib.hid s5
  have O5 := Lib.hid o5
  have P5 := Lib.hid p5
  have B5 := Lib.hid (B4.out.trans (b5.mono (Nat.le_refl _)))
  clear s5 o5 p5 b5
  go_wp2_with fail
  refine (putF p pl _ _ q i2 r2 _ S5.out.1 S5.out.2.2.1 HQ.out).mono ?_
  intro e w6 hpost
  obtain ⟨s6, b6, k6⟩ := S5.out.putF hpost
  obtain ⟨rfl, _⟩ := hpost
  have S6 := Lib.hid s6
  have O6 := Lib.hid (k6 _ _ O5.out)
  have P6 := Lib.hid (k6 _ _ P5.out)
  have B6 := Lib.hid (B5.out.trans (b6.mono (Nat.le_refl _)))
  clear s6 b6 k6
  go_wp2_with fail
  refine (r11 p q i1 r1 true _ (res_top p r i d _ _ _ _ _ q _ S6.out.1 S6.out.2.1 (setM_same _ _ _) O6.out.1 (setM_same _ _ _) P6.out.1 HQ.out i1 r1 (setM_same _ _ _))).mono ?_
  rintro e w7 ⟨rfl, b7⟩
  have E1 := Lib.hid (B6.out.trans (b7.mono B6.out.size))
  clear b7
  clear S2 B2 S3 O3 B3 S4 O4 P4 N4 B4 S5 O5 P5 B5 S6 O6 P6 B6
  go_wp2_with fail
  refine (newP _).mono ?_
  rintro e w2 ⟨p, r, pl, rfl, s2, b2⟩
  have S2 := Lib.hid s2
  have B2 := Lib.hid (E1.out.trans (b2.mono E1.out.size))
  clear s2 b2
  go_wp2_with fail
  refine (putI p r _ _ ⟨#[]⟩ _ S2.out.1 S2.out.2.1 (Nat.zero_le _)).mono ?_
  intro e w3 hpost
  obtain ⟨i, s3, o3, b3⟩ := S2.out.putI hpost
  obtain ⟨rfl, _⟩ := hpost
  have S3 := Lib.hid s3
  have O3 := Lib.hid o3
  have B3 := Lib.hid (B2.out.trans (b3.mono E1.out.size))
  clear s3 o3 b3
  go_wp2_with fail
  refine (putP p r i _ _ _ ⟨#[]⟩ ⟨#[]⟩ ⟨#[46, 47]⟩ _ S3.out.1 S3.out.2.1 (setM_same _ _ _) O3.out.1 (Nat.zero_le _) (Nat.zero_le _)).mono ?_
  intro e w4 hpost
  obtain ⟨d, s4, o4, p4, n4, b4⟩ := S3.out.putP O3.out hpost
  obtain ⟨rfl, _⟩ := hpost
  have S4 := Lib.hid s4
  have O4 := Lib.hid o4
  have P4 := Lib.hid p4
  have N4 := Lib.hid n4
  have B4 := Lib.hid (B3.out.trans (b4.mono E1.out.size))
  clear s4 o4 p4 n4 b4
  go_wp2_with fail
  refine (putF p pl _ _ q i2 r2 _ S4.out.1 S4.out.2.2.1 HQ.out).mono ?_
  intro e w6 hpost
  obtain ⟨s6, b6, k6⟩ := S4.out.putF hpost
  obtain ⟨rfl, _⟩ := hpost
  have S6 := Lib.hid s6
  have O6 := Lib.hid (k6 _ _ O4.out)
  have P6 := Lib.hid (k6 _ _ P4.out)
  have B6 := Lib.hid (B4.out.trans (b6.mono E1.out.size))
  clear s6 b6 k6
  go_wp2_with fail
  refine (r11 p q i2 r2 true _ (res_pool p r i d pl _ _ _ _ q _ S6.out.1 S6.out.2.1 (setM_same _ _ _) O6.out.1 (setM_same _ _ _) P6.out.1 HQ.out i2 r2 rfl _ S6.out.2.2.1 (setM_same _ _ _))).mono ?_
  rintro e w8 ⟨rfl, b7⟩
  have E2 := Lib.hid (B6.out.trans (b7.mono B6.out.size))
  clear b7
  clear S2 B2 S3 O3 B3 S4 O4 P4 N4 B4 S6 O6 P6 B6 E1
  go_wp2_with fail
  refine (newP _).mono ?_
  rintro e w2 ⟨p, r, pl, rfl, s2, b2⟩
  have S2 := Lib.hid s2
  have B2 := Lib.hid (E2.out.trans (b2.mono E2.out.size))
  clear s2 b2
  go_wp2_with fail
  refine (putF p pl _ _ q i2 r2 _ S2.out.1 S2.out.2.2.1 HQ.out).mono ?_
  intro e w6 hpost
  obtain ⟨s6, b6, k6⟩ := S2.out.putF hpost
  obtain ⟨rfl, _⟩ := hpost
  have S6 := Lib.hid s6
  have B6 := Lib.hid (B2.out.trans (b6.mono E2.out.size))
  clear s6 b6 k6
  go_wp2_with fail
  refine (r11 p q ⟨#[]⟩ ⟨#[]⟩ false _ (res_no p (some r) (some pl) q _ fun w1 hb => get_n p r _ _ w1 ((hb.block p S6.out.1.lt).trans S6.out.1) (S6.out.2.1.below hb S6.out.2.1.lt) rfl)).mono ?_
  rintro e w9 ⟨rfl, b7⟩
  have E3 := Lib.hid (B6.out.trans (b7.mono B6.out.size))
  clear b7
  clear S2 B2 S6 B6 E2
  go_wp2_with fail
  refine (new12 _).mono ?_
  rintro e w2 ⟨rfl, hw⟩
  have M2 := Lib.hid (show Man w2 w9.heap.size none none by rw [hw]; exact heap_alloc_new _ _)
  have B2 := Lib.hid (show Below _ _ w2 by rw [hw]; exact E3.out.alloc E3.out.size _)
  clear hw E3
  go_wp2_with fail
  refine (r11 w9.heap.size q ⟨#[]⟩ ⟨#[]⟩ false _ (res_no _ none none q _ fun w1 hb => get_nil _ _ w1 ((hb.block _ M2.out.lt).trans M2.out))).mono ?_
  rintro e w10 ⟨rfl, b7⟩
  have E4 := Lib.hid (B2.out.trans (b7.mono B2.out.size))
  clear b7
  go_wp2_with fail
  go_ret
  exact ⟨rfl, E4.out⟩

open Go.Extern.Stop Go.Stop Go.Extern Go.Kit
set_option maxHeartbeats 2000000 in
theorem walk (F : Interp) (a0 : ByteArray) (a1 : ByteArray) (a2 : ByteArray) (a3 : ByteArray) (a4 : ByteArray) (w : World) (hF : F.told.answers w.tape) (w0 : a0.size ≤ maxLen) (w1 : a1.size ≤ maxLen) (w2 : a2.size ≤ maxLen) (w3 : a3.size ≤ maxLen) (w4 : a4.size ≤ maxLen) :
    Calls Tryf.prog 3 #[.string a0, .string a1, .string a2, .string a3, .string a4] w fun e w' => e = .returned (.bool true) ∧ Below w.heap.size w w' := by
  exact main a0 a1 a2 a3 a4 w w0 w1 w2 w3 w4

set_option maxRecDepth 100000 in
theorem lifted (os : Os) (started : os.Started) (H : Type) (enc : TypeId × Value → H) :
    ReturnsInTold none {} Tryf.checked os 3 .any Input.okWide ((OpenSpec.ofChange Rows.fnFallbackTopLevelDependencyShadowsPoolSpec).preRow enc Tryf.prog Tryf.f3 [] false []) (fun F => ((OpenSpec.ofChange Rows.fnFallbackTopLevelDependencyShadowsPoolSpec).at F).post enc Tryf.prog Tryf.f3 false true false false) (aloneAtReturn Tryf.prog) nothingAlways := by
  refine returnsInTold_of_row (C := Tryf.checked) (s := OpenSpec.ofChange Rows.fnFallbackTopLevelDependencyShadowsPoolSpec) (by kernel_rfl) own started (by kernel_rfl) Tryf.func3
    (OpenSpec.witness_stopped (enc := enc) (C := Tryf.checked) false ⟨#[], #[.string ByteArray.empty, .string ByteArray.empty, .string ByteArray.empty, .string ByteArray.empty, .string ByteArray.empty], []⟩ 8 (by kernel_rfl) (by kernel_rfl) (by kernel_rfl) (by kernel_rfl)) ?_
  intro F W base args ds gs before _ hF hval0 hW _ _ _ _ _
  have hval : ∀ (j : Nat) t v, Tryf.f3.params[j]? = some t → args[j]? = some v → Value.okWide Tryf.prog W .any base t v := hval0
  have hW' := hW
  obtain ⟨p, q, hA0, hV, rfl, hfz, hnd⟩ := hW
  have hA : DataW.TrodAll enc Tryf.prog W 0 (fun _ => true) true Tryf.f3.params.toList args.toList ds p := hA0
  rw [Tryf.params3] at hA hval
  obtain ⟨v0, vs0, d0, ds0, p0, q0, hargs, rfl, rfl, h0, r0⟩ := trodAll_cons hA
  obtain ⟨v1, vs1, d1, ds1, p1, q1, rfl, rfl, rfl, h1, r1⟩ := trodAll_cons r0
  obtain ⟨v2, vs2, d2, ds2, p2, q2, rfl, rfl, rfl, h2, r2⟩ := trodAll_cons r1
  obtain ⟨v3, vs3, d3, ds3, p3, q3, rfl, rfl, rfl, h3, r3⟩ := trodAll_cons r2
  obtain ⟨v4, vs4, d4, ds4, p4, q4, rfl, rfl, rfl, h4, r4⟩ := trodAll_cons r3
  obtain ⟨rfl, rfl, rfl⟩ := trodAll_nil r4
  obtain rfl : args = #[v0, v1, v2, v3, v4] := by cases args; simp_all
  obtain ⟨rfl, rfl⟩ := trodVars_none hV
  obtain ⟨a0, rfl, rfl, rfl, w0⟩ := open_string Tryf.underlying9 (hval 0 9 v0 rfl rfl) h0
  obtain ⟨a1, rfl, rfl, rfl, w1⟩ := open_string Tryf.underlying9 (hval 1 9 v1 rfl rfl) h1
  obtain ⟨a2, rfl, rfl, rfl, w2⟩ := open_string Tryf.underlying9 (hval 2 9 v2 rfl rfl) h2
  obtain ⟨a3, rfl, rfl, rfl, w3⟩ := open_string Tryf.underlying9 (hval 3 9 v3 rfl rfl) h3
  obtain ⟨a4, rfl, rfl, rfl, w4⟩ := open_string Tryf.underlying9 (hval 4 9 v4 rfl rfl) h4
  clear hA0 hval0
  refine (walk F a0 a1 a2 a3 a4 W hF w0 w1 w2 w3 w4).mono fun e W' ⟨he, bel⟩ => ?_
  subst he
  exact ⟨_, rfl, _, _, _, [], _, [], hW', trodAll_mk1 (shut_bool Tryf.underlying4 _), (trodAll_cons_mk (shut_string Tryf.underlying9 w0) (trodAll_cons_mk (shut_string Tryf.underlying9 w1) (trodAll_cons_mk (shut_string Tryf.underlying9 w2) (trodAll_cons_mk (shut_string Tryf.underlying9 w3) (trodAll_cons_mk (shut_string Tryf.underlying9 w4) trodAll_mk0))))), rfl, bel.frame _, fun h => by cases h⟩

theorem stops : Tryf.pinned.checked.prog.stops = ["fmt.Sprintf"] := by kernel_rfl
theorem stopKnobs : Tryf.pinned.checked.prog.stopKnobs = [] := by kernel_rfl
theorem quiet_ (os : Os) : Stop.quiet Tryf.pinned.checked.prog os := by
  intro k hk
  rw [stopKnobs] at hk
  cases hk

theorem proved : Rows.FnFallbackTopLevelDependencyShadowsPoolToldSaid :=
  Claim7.holds_of_told_any 3 Tryf.f3 "fmt.Sprintf" [] [] _ _ _ (by kernel_rfl) rfl rfl rfl laidOut (by kernel_rfl) rfl ⟨rfl, rfl, rfl, rfl, rfl, rfl, rfl⟩ rfl rfl (by kernel_rfl) (by kernel_rfl) Tryf.func3 (by kernel_rfl)
    (of_decide_eq_true (by kernel_rfl)) (by unfold Func.isWrapper; first | (rw [if_pos (by decide +kernel)]; kernel_rfl) | (rw [if_neg (by decide +kernel)]; exact ⟨rfl, rfl⟩)) stops.symm rfl stopKnobs.symm (by kernel_rfl)
    (by kernel_rfl) (by kernel_rfl) (by kernel_rfl) (by kernel_rfl) (by kernel_rfl) (by kernel_rfl) (by kernel_rfl) (by kernel_rfl) (by kernel_rfl) rfl (by kernel_rfl) rfl rfl
    rfl rfl
    rfl (by kernel_rfl) (by kernel_rfl) (by kernel_rfl) (by decide) (by kernel_rfl)
    (OpenClaim.moreEntering_of (by kernel_rfl) (by kernel_rfl) (by kernel_rfl) (by kernel_rfl) (by kernel_rfl) (by kernel_rfl) (by kernel_rfl) (by kernel_rfl) (by kernel_rfl) (by kernel_rfl))
    ⟨_, WideRow.started_initial, quiet_ _⟩
    (fun os started _ H enc _ => lifted os started H enc)
#print axioms proved
end Go.Proofs.YtkkhfhbmcdpboaaFmt.fnFallbackTopLevelDependencyShadowsPool
