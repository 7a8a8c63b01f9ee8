/- Contracts of functions that the law of this seat reaches, and plain facts; no condition. -/
import Derived.Test.YtogacjjgfpkdfaaProg
import Derived.WalkKit
import Derived.ProofKit
import Derived.OpenShut
import Derived.ShutString
import Derived.Test.YtogacjjgfpkdfaaAid
import Derived.Test.YtogacjjgfpkdfaaFl
import Derived.Test.YtogacjjgfpkdfaaStr
import Derived.Test.YtogacjjgfpkdfaaPb
import Derived.Test.YtogacjjgfpkdfaaQd
import Derived.Test.YtogacjjgfpkdfaaAm
import Derived.Test.YtogacjjgfpkdfaaMp
import Derived.Laws.IdiomRangeMap
import Derived.ArgAppend
import Derived.WalkSmall
import Derived.WalkSpells
import Derived.Laws.Externs
import Derived.WalkLawsBesides
import Derived.LoopTactic
import Derived.Deep.CutBlock
import Derived.Deep.DeepCutAuto
import Derived.IntWalk
import Derived.Outline
import Derived.Deep.QuietTactic
import Derived.BigQuiet
import Derived.RegionTactic
import Derived.Deep.RegionHeld3
import Derived.Deep.MidRow
import Derived.StillTailTactics
import Derived.BigRegion
import Derived.Laws.OwnMore
import Derived.Laws.Rows
namespace Go.Proofs.Ytogacjjgfpkdfaa.Aux
open Go.ChangeShapes Go.WideShapes Go.ChangeAt Go.RowKit
open Go.ChangeMaps (open_string shut_string)
set_option linter.unusedVariables false
set_option linter.unusedSimpArgs false
open Fl Str Pb Qd Am Mp PlainAid
open Go.ChangeMaps
theorem u8c {a : Nat} (h : a < 256) : (Lit.int .u8 (a : Int)).wf = true := by
  simp only [Lit.wf, Bool.and_eq_true, decide_eq_true_eq]; exact ⟨by show (0 : Int) ≤ _; omega, by show _ ≤ (255 : Int); omega⟩
theorem mk62 : Go.Maps.Keyed Try.prog 5 := Go.Maps.int_keyed Try.underlying5
theorem set_new {P : Program} {k t e : TypeId} {w : World} {b : Nat} {es : Array MapEntry} {cl : Nat} (K : Go.Maps.Keyed P k) (ht : P.underlying t = some (.map k e)) (hb : w.heap[b]? = some (.map es cl))
    (hes : ∀ x ∈ es.toList, ∃ l, keyOf P k x.key = some l) {key : Value} {kl : Lit} (hkey : keyOf P k key = some kl) (hne : ∀ x ∈ es.toList, x.key ≠ key) (v : Value) :
    (Instr.mapUpdate t (.map (some b)) key v).run P w = .ok () (setBlock w b (.map (es.push ⟨key, v, cl⟩) (cl + 1))) := by
  rcases K.find w hkey es.toList hes with ⟨h1, h2⟩ | ⟨j, e0, h1, h2, h3⟩
  · simp [Instr.mapUpdate, run_underlying ht, MapKept.run_getObj_map hb, K.check w false hkey, h1, MapKept.run_setObj_map _ hb, Result.andThen, setBlock]
  · exact absurd h3 (hne e0 (List.mem_of_getElem? h2))
/-- The map's entries, key by key. -/
def ents : List Nat → Nat → List MapEntry
  | [], _ => []
  | k :: ks, i => ⟨.int .u8 (k : Int), .int .i8 3, i⟩ :: ents ks (i + 1)
theorem ents_app (ks : List Nat) (k : Nat) : ∀ i, ents (ks ++ [k]) i = ents ks i ++ [⟨.int .u8 (k : Int), .int .i8 3, i + ks.length⟩] := by
  induction ks with
  | nil => intro i; rfl
  | cons a ks ih => intro i; simp only [List.cons_append, ents, ih, List.length_cons]; rw [show i + 1 + ks.length = i + (ks.length + 1) by omega]
theorem ents_mem {x : MapEntry} : ∀ (ks : List Nat) (i : Nat), x ∈ ents ks i → ∃ k ∈ ks, x.key = .int .u8 (k : Int) ∧ i ≤ x.born ∧ x.born < i + ks.length := by
  intro ks
  induction ks with
  | nil => intro i h; cases h
  | cons a ks ih =>
    intro i h
    rcases List.mem_cons.1 h with rfl | h
    · exact ⟨a, List.mem_cons_self, rfl, Nat.le_refl _, by simp⟩
    · obtain ⟨k, hk, e, h1, h2⟩ := ih _ h
      exact ⟨k, List.mem_cons_of_mem _ hk, e, by omega, by simp; omega⟩
theorem ents_has {k : Nat} : ∀ (ks : List Nat) (i : Nat), k ∈ ks → ∃ x ∈ ents ks i, x.key = .int .u8 (k : Int) := by
  intro ks
  induction ks with
  | nil => intro i h; cases h
  | cons a ks ih =>
    intro i h
    rcases List.mem_cons.1 h with rfl | h
    · exact ⟨_, List.mem_cons_self, rfl⟩
    · obtain ⟨x, hx, e⟩ := ih (i + 1) h
      exact ⟨x, List.mem_cons_of_mem _ hx, e⟩
theorem ents_nodup : ∀ (ks : List Nat) (i : Nat), ((ents ks i).map (·.born)).Nodup := by
  intro ks
  induction ks with
  | nil => intro i; simp [ents]
  | cons a ks ih =>
    intro i
    simp only [ents, List.map_cons, List.nodup_cons]
    refine ⟨fun h => ?_, ih _⟩
    obtain ⟨x, hx, e⟩ := List.mem_map.1 h
    obtain ⟨_, _, _, h1, _⟩ := ents_mem _ _ hx
    omega
/-- The map in block b holds the keys. -/
def MapHas (b : Nat) (ks : List Nat) (w : World) : Prop := w.heap[b]? = some (.map (ents ks 0).toArray ks.length)
theorem has_new {w : World} {b : Nat} {ks : List Nat} (h : MapHas b ks w) (hk : ∀ x ∈ ks, x < 256) {k : Nat} (hk2 : k < 256) (hn : k ∉ ks) :
    ∃ w', (Instr.mapUpdate 62 (.map (some b)) (.int .u8 (k : Int)) (.int .i8 3)).run Try.prog w = .ok () w' ∧ Hid (MapHas b (ks ++ [k]) w' ∧ Below b w w' ∧ w'.heap.size = w.heap.size) := by
  have hlt : b < w.heap.size := by
    unfold MapHas at h
    exact Classical.byContradiction fun hn => by rw [Array.getElem?_eq_none (by omega)] at h; cases h
  refine ⟨_, set_new mk62 Try.underlying62 h ?_ (Go.Maps.keyOf_int_mk Try.underlying5 (u8c hk2)) ?_ _, Lib.hid ⟨?_, ?_, setBlock_size _ _ _⟩⟩
  · intro x hx
    obtain ⟨k', hk', e, _⟩ := ents_mem _ _ (show x ∈ ents ks 0 from hx)
    exact ⟨_, by rw [e]; exact Go.Maps.keyOf_int_mk Try.underlying5 (u8c (hk k' hk'))⟩
  · intro x hx e2
    obtain ⟨k', hk', e, _⟩ := ents_mem _ _ (show x ∈ ents ks 0 from hx)
    rw [e] at e2
    injection e2 with _ e2
    exact hn (by rw [show k = k' by omega]; exact hk')
  · unfold MapHas
    rw [block_set _ _ _ hlt, ents_app]
    simp
  · exact setBlock_below (Below.refl _ _) (Nat.le_refl _) _
/-- Which IDs a name sets. -/
def ids (s : ByteArray) : List Nat :=
  if (s.toList == [97, 115, 115, 101, 114, 116, 45, 116, 111, 45, 119, 105, 116, 104]) = true then [1]
  else if (s.toList == [97, 115, 115, 101, 114, 116, 45, 116, 121, 112, 101, 45, 106, 115, 111, 110]) = true then [2]
  else if (s.toList == [97, 115, 115, 105, 103, 110, 45, 116, 111, 45, 99, 111, 110, 115, 116, 97, 110, 116]) = true then [3]
  else if (s.toList == [97, 115, 115, 105, 103, 110, 45, 116, 111, 45, 100, 101, 102, 105, 110, 101]) = true then [4]
  else if (s.toList == [97, 115, 115, 105, 103, 110, 45, 116, 111, 45, 105, 109, 112, 111, 114, 116]) = true then [5]
  else if (s.toList == [98, 105, 103, 105, 110, 116]) = true then [6]
  else if (s.toList == [99, 97, 108, 108, 45, 105, 109, 112, 111, 114, 116, 45, 110, 97, 109, 101, 115, 112, 97, 99, 101]) = true then [7]
  else if (s.toList == [99, 108, 97, 115, 115, 45, 110, 97, 109, 101, 45, 119, 105, 108, 108, 45, 116, 104, 114, 111, 119]) = true then [8]
  else if (s.toList == [99, 111, 109, 109, 111, 110, 106, 115, 45, 118, 97, 114, 105, 97, 98, 108, 101, 45, 105, 110, 45, 101, 115, 109]) = true then [9]
  else if (s.toList == [99, 111, 110, 102, 117, 115, 105, 110, 103, 45, 116, 121, 112, 101, 115, 99, 114, 105, 112, 116, 45, 99, 97, 115, 116]) = true then [10]
  else if (s.toList == [100, 101, 108, 101, 116, 101, 45, 115, 117, 112, 101, 114, 45, 112, 114, 111, 112, 101, 114, 116, 121]) = true then [11]
  else if (s.toList == [100, 105, 114, 101, 99, 116, 45, 101, 118, 97, 108]) = true then [12]
  else if (s.toList == [100, 117, 112, 108, 105, 99, 97, 116, 101, 45, 99, 97, 115, 101]) = true then [13]
  else if (s.toList == [100, 117, 112, 108, 105, 99, 97, 116, 101, 45, 99, 108, 97, 115, 115, 45, 109, 101, 109, 98, 101, 114]) = true then [14]
  else if (s.toList == [100, 117, 112, 108, 105, 99, 97, 116, 101, 45, 111, 98, 106, 101, 99, 116, 45, 107, 101, 121]) = true then [15]
  else if (s.toList == [101, 109, 112, 116, 121, 45, 105, 109, 112, 111, 114, 116, 45, 109, 101, 116, 97]) = true then [16]
  else if (s.toList == [101, 113, 117, 97, 108, 115, 45, 110, 97, 110]) = true then [17]
  else if (s.toList == [101, 113, 117, 97, 108, 115, 45, 110, 101, 103, 97, 116, 105, 118, 101, 45, 122, 101, 114, 111]) = true then [18]
  else if (s.toList == [101, 113, 117, 97, 108, 115, 45, 110, 101, 119, 45, 111, 98, 106, 101, 99, 116]) = true then [19]
  else if (s.toList == [104, 116, 109, 108, 45, 99, 111, 109, 109, 101, 110, 116, 45, 105, 110, 45, 106, 115]) = true then [20]
  else if (s.toList == [105, 109, 112, 111, 115, 115, 105, 98, 108, 101, 45, 116, 121, 112, 101, 111, 102]) = true then [21]
  else if (s.toList == [105, 110, 100, 105, 114, 101, 99, 116, 45, 114, 101, 113, 117, 105, 114, 101]) = true then [22]
  else if (s.toList == [112, 114, 105, 118, 97, 116, 101, 45, 110, 97, 109, 101, 45, 119, 105, 108, 108, 45, 116, 104, 114, 111, 119]) = true then [23]
  else if (s.toList == [115, 101, 109, 105, 99, 111, 108, 111, 110, 45, 97, 102, 116, 101, 114, 45, 114, 101, 116, 117, 114, 110]) = true then [24]
  else if (s.toList == [115, 117, 115, 112, 105, 99, 105, 111, 117, 115, 45, 98, 111, 111, 108, 101, 97, 110, 45, 110, 111, 116]) = true then [25]
  else if (s.toList == [115, 117, 115, 112, 105, 99, 105, 111, 117, 115, 45, 100, 101, 102, 105, 110, 101]) = true then [26]
  else if (s.toList == [115, 117, 115, 112, 105, 99, 105, 111, 117, 115, 45, 108, 111, 103, 105, 99, 97, 108, 45, 111, 112, 101, 114, 97, 116, 111, 114]) = true then [27]
  else if (s.toList == [115, 117, 115, 112, 105, 99, 105, 111, 117, 115, 45, 110, 117, 108, 108, 105, 115, 104, 45, 99, 111, 97, 108, 101, 115, 99, 105, 110, 103]) = true then [28]
  else if (s.toList == [116, 104, 105, 115, 45, 105, 115, 45, 117, 110, 100, 101, 102, 105, 110, 101, 100, 45, 105, 110, 45, 101, 115, 109]) = true then [29]
  else if (s.toList == [117, 110, 115, 117, 112, 112, 111, 114, 116, 101, 100, 45, 100, 121, 110, 97, 109, 105, 99, 45, 105, 109, 112, 111, 114, 116]) = true then [30]
  else if (s.toList == [117, 110, 115, 117, 112, 112, 111, 114, 116, 101, 100, 45, 106, 115, 120, 45, 99, 111, 109, 109, 101, 110, 116]) = true then [31]
  else if (s.toList == [117, 110, 115, 117, 112, 112, 111, 114, 116, 101, 100, 45, 114, 101, 103, 101, 120, 112]) = true then [32]
  else if (s.toList == [117, 110, 115, 117, 112, 112, 111, 114, 116, 101, 100, 45, 114, 101, 113, 117, 105, 114, 101, 45, 99, 97, 108, 108]) = true then [33]
  else if (s.toList == [99, 115, 115, 45, 115, 121, 110, 116, 97, 120, 45, 101, 114, 114, 111, 114]) = true then [34]
  else if (s.toList == [105, 110, 118, 97, 108, 105, 100, 45, 64, 99, 104, 97, 114, 115, 101, 116]) = true then [35]
  else if (s.toList == [105, 110, 118, 97, 108, 105, 100, 45, 64, 105, 109, 112, 111, 114, 116]) = true then [36]
  else if (s.toList == [105, 110, 118, 97, 108, 105, 100, 45, 64, 108, 97, 121, 101, 114]) = true then [37]
  else if (s.toList == [105, 110, 118, 97, 108, 105, 100, 45, 99, 97, 108, 99]) = true then [38]
  else if (s.toList == [106, 115, 45, 99, 111, 109, 109, 101, 110, 116, 45, 105, 110, 45, 99, 115, 115]) = true then [39]
  else if (s.toList == [117, 110, 100, 101, 102, 105, 110, 101, 100, 45, 99, 111, 109, 112, 111, 115, 101, 115, 45, 102, 114, 111, 109]) = true then [40]
  else if (s.toList == [117, 110, 115, 117, 112, 112, 111, 114, 116, 101, 100, 45, 64, 99, 104, 97, 114, 115, 101, 116]) = true then [41]
  else if (s.toList == [117, 110, 115, 117, 112, 112, 111, 114, 116, 101, 100, 45, 64, 110, 97, 109, 101, 115, 112, 97, 99, 101]) = true then [42]
  else if (s.toList == [117, 110, 115, 117, 112, 112, 111, 114, 116, 101, 100, 45, 99, 115, 115, 45, 112, 114, 111, 112, 101, 114, 116, 121]) = true then [43]
  else if (s.toList == [117, 110, 115, 117, 112, 112, 111, 114, 116, 101, 100, 45, 99, 115, 115, 45, 110, 101, 115, 116, 105, 110, 103]) = true then [44]
  else if (s.toList == [97, 109, 98, 105, 103, 117, 111, 117, 115, 45, 114, 101, 101, 120, 112, 111, 114, 116]) = true then [45]
  else if (s.toList == [100, 105, 102, 102, 101, 114, 101, 110, 116, 45, 112, 97, 116, 104, 45, 99, 97, 115, 101]) = true then [46]
  else if (s.toList == [101, 109, 112, 116, 121, 45, 103, 108, 111, 98]) = true then [47]
  else if (s.toList == [105, 103, 110, 111, 114, 101, 100, 45, 98, 97, 114, 101, 45, 105, 109, 112, 111, 114, 116]) = true then [48]
  else if (s.toList == [105, 103, 110, 111, 114, 101, 100, 45, 100, 121, 110, 97, 109, 105, 99, 45, 105, 109, 112, 111, 114, 116]) = true then [49]
  else if (s.toList == [105, 109, 112, 111, 114, 116, 45, 105, 115, 45, 117, 110, 100, 101, 102, 105, 110, 101, 100]) = true then [50]
  else if (s.toList == [114, 101, 113, 117, 105, 114, 101, 45, 114, 101, 115, 111, 108, 118, 101, 45, 110, 111, 116, 45, 101, 120, 116, 101, 114, 110, 97, 108]) = true then [51]
  else if (s.toList == [105, 110, 118, 97, 108, 105, 100, 45, 115, 111, 117, 114, 99, 101, 45, 109, 97, 112, 112, 105, 110, 103, 115]) = true then [52]
  else if (s.toList == [109, 105, 115, 115, 105, 110, 103, 45, 115, 111, 117, 114, 99, 101, 45, 109, 97, 112]) = true then [53]
  else if (s.toList == [117, 110, 115, 117, 112, 112, 111, 114, 116, 101, 100, 45, 115, 111, 117, 114, 99, 101, 45, 109, 97, 112, 45, 99, 111, 109, 109, 101, 110, 116]) = true then [54]
  else if (s.toList == [112, 97, 99, 107, 97, 103, 101, 46, 106, 115, 111, 110]) = true then [55, 56, 57, 58, 59, 60, 61]
  else if (s.toList == [116, 115, 99, 111, 110, 102, 105, 103, 46, 106, 115, 111, 110]) = true then [62, 63, 64, 65, 66, 67, 68, 69, 70]
  else []
theorem has_below {w w' : World} {b : Nat} {ks : List Nat} (h : MapHas b ks w) : Below b w w := Below.refl _ _
def Ms (b : Nat) (s : ByteArray) (w : World) (e : Ending) (w' : World) : Prop := e = .returned (.tuple #[]) ∧ Hid (MapHas b (ids s) w' ∧ Below b w w' ∧ w'.heap.size = w.heap.size)
end Go.Proofs.Ytogacjjgfpkdfaa.Aux
