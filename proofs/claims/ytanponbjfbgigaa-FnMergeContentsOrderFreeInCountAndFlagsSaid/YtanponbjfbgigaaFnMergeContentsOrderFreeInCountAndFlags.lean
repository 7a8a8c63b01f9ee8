/- Merging symbols a and b into a new one in either order yields equal flags and use counts, and the same name unless the new one is unpinned while both a and b are pinned. No condition. -/
import Derived.Test.YtanponbjfbgigaaRows
import Derived.WalkKit
import Derived.ProofKit
import Derived.OpenShut
import Derived.ShutString
import Derived.Test.YtanponbjfbgigaaFacts
import Derived.DataShut
import Derived.Laws.BitsAllLaws
import Derived.Lib.Hide
import Derived.WalkSpells
import Derived.RegionTactic
import Derived.ChangeAlike
namespace Go.Proofs.Ytanponbjfbgigaa.fnMergeContentsOrderFreeInCountAndFlags
open Go.ChangeShapes Go.WideShapes Go.ChangeAt Go.RowKit
open Go.ChangeMaps (open_string shut_string)
set_option linter.unusedVariables false      -- a walk need not use every 'w<i>' (that an integer argument fits its kind)

theorem own : ownKnob Try.prog.godebug = none := by kernel_rfl

theorem mk (k f c : Int) (s : ByteArray) (w : World) :
    Calls Try.prog 13 #[.int .u8 k, .int .u16 f, .string s, .int .u32 c] w fun e w' => e = .returned (.agg #[.pointer none, .string s, .int .u32 0, .int .u32 0, .int .u32 c, .int .u32 0, .int .u32 0, .int .u16 f, .int .u8 k, .int .u8 0])
      ∧ w' = w.alloc (.cells #[.pointer none, .string s, .int .u32 0, .int .u32 0, .int .u32 c, .int .u32 0, .int .u32 0, .int .u16 f, .int .u8 k, .int .u8 0] 48) := by
  go_enter Try.func13, Try.ntmps13
  go_wp2
  exact bodyPost_ret (v := .agg #[.pointer none, .string s, .int .u32 0, .int .u32 0, .int .u32 c, .int .u32 0, .int .u32 0, .int .u16 f, .int .u8 k, .int .u8 0]) (by simp [results, Try.results13, go_sem]) rfl ⟨rfl, rfl⟩

def fitsB (n : Nat) : Bool := decide (n ≤ 1048576)
theorem zz (f0 f3 f6 c2 c5 c8 : Int) (s1 s4 s7 : ByteArray) (w : World) (h1 : s1.size ≤ maxLen) (h4 : s4.size ≤ maxLen) (h7 : s7.size ≤ maxLen) :
    Calls Try.prog 12 #[.int .u16 f0, .string s1, .int .u32 c2, .int .u16 f3, .string s4, .int .u32 c5, .int .u16 f6, .string s7, .int .u32 c8] w
      fun e w' => e = .returned (.bool (fitsB (s1.size + s4.size + s7.size))) ∧ w = w' := by
  unfold maxLen at h1 h4 h7
  by_cases h : s1.size + s4.size + s7.size ≤ 1048576
  · have H := Lib.hid (show fitsB (s1.size + s4.size + s7.size) = true by unfold fitsB; simpa using h)
    go_enter Try.func12, Try.ntmps12
    go_wp2
    go_ret
    exact ⟨by rw [H.out]; rfl, rfl⟩
  · have H := Lib.hid (show fitsB (s1.size + s4.size + s7.size) = false by unfold fitsB; simpa using h)
    go_enter Try.func12, Try.ntmps12
    go_wp2
    all_goals
      go_ret
      exact ⟨by rw [H.out]; rfl, rfl⟩

structure Sym (w : World) (b : Nat) (s : ByteArray) (c f : Int) : Prop where
  c1 : w.cell? ⟨b, 1, none⟩ = some (.string s)
  c4 : w.cell? ⟨b, 4, none⟩ = some (.int .u32 c)
  c7 : w.cell? ⟨b, 7, none⟩ = some (.int .u16 f)
  z1 : w.frozen? ⟨b, 1, none⟩ = false
  z4 : w.frozen? ⟨b, 4, none⟩ = false
  z7 : w.frozen? ⟨b, 7, none⟩ = false

def cnt (a b : Int) : Int := (a + b) % 4294967296
def pin (n o : Int) : Bool := (bits .and .u16 o 1 != 0) && !(bits .and .u16 n 1 != 0)
def flA (n o : Int) : Int := if pin n o then bits .or .u16 n 1 else n
def fl (n o : Int) : Int := if bits .and .u16 o 2 != 0 then bits .or .u16 (flA n o) 2 else flA n o
def nm (nn on : ByteArray) (n o : Int) : ByteArray := if pin n o then on else nn

theorem Sym.other {w : World} {b : Nat} {s : ByteArray} {c f : Int} (h : Sym w b s c f) {a : Addr} (ha : a.block ≠ b) (v : Value) : Sym (w.setCell a v) b s c f := by
  obtain ⟨h1, h2, h3, h4, h5, h6⟩ := h
  have e : ∀ k, (w.setCell a v).cell? ⟨b, k, none⟩ = w.cell? ⟨b, k, none⟩ := fun k => World.cell?_of_block (w := w) (Below.heap_setCell _ _ _ _ (by simpa using fun e => ha e.symm))
  exact ⟨(e 1).trans h1, (e 4).trans h2, (e 7).trans h3, (World.frozen?_setCell _ _ _ _).trans h4, (World.frozen?_setCell _ _ _ _).trans h5, (World.frozen?_setCell _ _ _ _).trans h6⟩

def Merged (w : World) (bn : Nat) (s : ByteArray) (c f : Int) (w' : World) : Prop :=
  Sym w' bn s c f ∧ (∀ b s c f, b ≠ bn → Sym w b s c f → Sym w' b s c f) ∧ Below bn w w'

theorem far {a b : Addr} (h : a.off ≠ b.off) : a ≠ b := fun e => h (by rw [e])
theorem Merged.start {w : World} {bn : Nat} {s : ByteArray} {c f : Int} (h : Sym w bn s c f) : Merged w bn s c f w := ⟨h, fun _ _ _ _ _ h => h, Below.refl _ _⟩
theorem Merged.drew {w w' : World} {bn : Nat} {s : ByteArray} {c f : Int} (h : Merged w bn s c f w') : Merged w bn s c f w'.drew :=
  ⟨⟨h.1.c1, h.1.c4, h.1.c7, h.1.z1, h.1.z4, h.1.z7⟩, fun b s c f hb k => by obtain ⟨x1, x2, x3, x4, x5, x6⟩ := h.2.1 b s c f hb k; exact ⟨x1, x2, x3, x4, x5, x6⟩, h.2.2.drew⟩
theorem Merged.name {w w' : World} {bn : Nat} {s : ByteArray} {c f : Int} (h : Merged w bn s c f w') (s' : ByteArray) : Merged w bn s' c f (w'.setCell ⟨bn, 1, none⟩ (.string s')) := by
  obtain ⟨⟨h1, h2, h3, h4, h5, h6⟩, ho, hb⟩ := h
  exact ⟨⟨World.cell?_setCell_same _ _ _ h1, (World.cell?_setCell_other _ _ _ _ (far (by simp))).trans h2, (World.cell?_setCell_other _ _ _ _ (far (by simp))).trans h3, (World.frozen?_setCell _ _ _ _).trans h4, (World.frozen?_setCell _ _ _ _).trans h5, (World.frozen?_setCell _ _ _ _).trans h6⟩,
    fun b s c f hn k => (ho b s c f hn k).other (fun e => hn e.symm) _, hb.setCell (Nat.le_refl _) _⟩
theorem Merged.count {w w' : World} {bn : Nat} {s : ByteArray} {c f : Int} (h : Merged w bn s c f w') (c' : Int) : Merged w bn s c' f (w'.setCell ⟨bn, 4, none⟩ (.int .u32 c')) := by
  obtain ⟨⟨h1, h2, h3, h4, h5, h6⟩, ho, hb⟩ := h
  exact ⟨⟨(World.cell?_setCell_other _ _ _ _ (far (by simp))).trans h1, World.cell?_setCell_same _ _ _ h2, (World.cell?_setCell_other _ _ _ _ (far (by simp))).trans h3, (World.frozen?_setCell _ _ _ _).trans h4, (World.frozen?_setCell _ _ _ _).trans h5, (World.frozen?_setCell _ _ _ _).trans h6⟩,
    fun b s c f hn k => (ho b s c f hn k).other (fun e => hn e.symm) _, hb.setCell (Nat.le_refl _) _⟩
theorem Merged.flags {w w' : World} {bn : Nat} {s : ByteArray} {c f : Int} (h : Merged w bn s c f w') (f' : Int) : Merged w bn s c f' (w'.setCell ⟨bn, 7, none⟩ (.int .u16 f')) := by
  obtain ⟨⟨h1, h2, h3, h4, h5, h6⟩, ho, hb⟩ := h
  exact ⟨⟨(World.cell?_setCell_other _ _ _ _ (far (by simp))).trans h1, (World.cell?_setCell_other _ _ _ _ (far (by simp))).trans h2, World.cell?_setCell_same _ _ _ h3, (World.frozen?_setCell _ _ _ _).trans h4, (World.frozen?_setCell _ _ _ _).trans h5, (World.frozen?_setCell _ _ _ _).trans h6⟩,
    fun b s c f hn k => (ho b s c f hn k).other (fun e => hn e.symm) _, hb.setCell (Nat.le_refl _) _⟩

set_option maxHeartbeats 1000000 in
theorem merge (bn bo : Nat) (nn on : ByteArray) (nc oc nf of : Int) (w : World) (hne : bn ≠ bo) (hn : Sym w bn nn nc nf) (ho : Sym w bo on oc of) :
    Calls Try.prog 14 #[.pointer (some ⟨bn, 0, none⟩), .pointer (some ⟨bo, 0, none⟩)] w fun e w' => e = .returned (.tuple #[]) ∧ Merged w bn (nm nn on nf of) (cnt nc oc) (fl nf of) w' := by
  have hne' : ¬ bo = bn := fun h => hne h.symm
  have M0 := Lib.hid (Merged.start hn)
  obtain ⟨p1, p4, p7, z1, z4, z7⟩ := hn
  obtain ⟨q1, q4, q7, _, _, _⟩ := ho
  by_cases t1 : (bits .and .u16 of 1 != 0) = false
  · by_cases t2 : (bits .and .u16 of 2 != 0) = false
    · have H := Lib.hid (show nm nn on nf of = nn ∧ fl nf of = nf by simp only [nm, fl, flA, pin, t1, t2]; exact ⟨rfl, rfl⟩)
      go_enter Try.func14, Try.ntmps14
      go_wp2
      go_region
      all_goals
        go_wp2
        go_end0
        exact ⟨rfl, by rw [H.out.1, H.out.2]; exact (M0.out.count _).drew⟩
    · rw [Bool.not_eq_false] at t2
      have H := Lib.hid (show nm nn on nf of = nn ∧ fl nf of = bits .or .u16 nf 2 by simp only [nm, fl, flA, pin, t1, t2]; exact ⟨rfl, rfl⟩)
      go_enter Try.func14, Try.ntmps14
      go_wp2
      go_region
      all_goals
        go_wp2
        go_end0
        exact ⟨rfl, by rw [H.out.1, H.out.2]; exact ((M0.out.count _).flags _).drew⟩
  · rw [Bool.not_eq_false] at t1
    by_cases t3 : (bits .and .u16 nf 1 != 0) = true
    · by_cases t2 : (bits .and .u16 of 2 != 0) = false
      · have H := Lib.hid (show nm nn on nf of = nn ∧ fl nf of = nf by simp only [nm, fl, flA, pin, t1, t2, t3]; exact ⟨rfl, rfl⟩)
        go_enter Try.func14, Try.ntmps14
        go_wp2
        go_region
        all_goals
          go_wp2
          go_end0
          exact ⟨rfl, by rw [H.out.1, H.out.2]; exact (M0.out.count _).drew⟩
      · rw [Bool.not_eq_false] at t2
        have H := Lib.hid (show nm nn on nf of = nn ∧ fl nf of = bits .or .u16 nf 2 by simp only [nm, fl, flA, pin, t1, t2, t3]; exact ⟨rfl, rfl⟩)
        go_enter Try.func14, Try.ntmps14
        go_wp2
        go_region
        all_goals
          go_wp2
          go_end0
          exact ⟨rfl, by rw [H.out.1, H.out.2]; exact ((M0.out.count _).flags _).drew⟩
    · rw [Bool.not_eq_true] at t3
      by_cases t2 : (bits .and .u16 of 2 != 0) = false
      · have H := Lib.hid (show nm nn on nf of = on ∧ fl nf of = bits .or .u16 nf 1 by simp only [nm, fl, flA, pin, t1, t2, t3]; exact ⟨rfl, rfl⟩)
        go_enter Try.func14, Try.ntmps14
        go_wp2
        go_region
        all_goals
          go_wp2
          go_end0
          exact ⟨rfl, by rw [H.out.1, H.out.2]; exact (((M0.out.count _).name _).flags _).drew⟩
      · rw [Bool.not_eq_false] at t2
        have H := Lib.hid (show nm nn on nf of = on ∧ fl nf of = bits .or .u16 (bits .or .u16 nf 1) 2 by simp only [nm, fl, flA, pin, t1, t2, t3]; exact ⟨rfl, rfl⟩)
        go_enter Try.func14, Try.ntmps14
        go_wp2
        go_region
        all_goals
          go_wp2
          go_end0
          refine ⟨rfl, ?_⟩
          rw [H.out.1, H.out.2]
          exact ((((M0.out.count _).name _).flags _).flags _).drew
theorem or_one (n : Nat) (h : n &&& 1 ≠ 0) : n ||| 1 = n := by
  apply Nat.eq_of_testBit_eq
  intro i
  rw [Nat.testBit_or]
  cases i with
  | zero =>
    rw [Nat.and_one_is_mod] at h
    have : n % 2 = 1 := by omega
    simp [this]
  | succ i => simp [Nat.testBit_succ]
theorem fl_nat (n o : Nat) (hn : n < 65536) (ho : o < 65536) : fl (n : Int) (o : Int) = ((n ||| (o &&& 3) : Nat) : Int) := by
  have a1 : bits .and .u16 (o : Int) 1 = ((o &&& 1 : Nat) : Int) := u16_and_nat o 1 ho (by omega)
  have a2 : bits .and .u16 (o : Int) 2 = ((o &&& 2 : Nat) : Int) := u16_and_nat o 2 ho (by omega)
  have a3 : bits .and .u16 (n : Int) 1 = ((n &&& 1 : Nat) : Int) := u16_and_nat n 1 hn (by omega)
  have hl1 : n ||| 1 < 65536 := Nat.or_lt_two_pow (n := 16) hn (by omega)
  have o1 : bits .or .u16 (n : Int) 1 = ((n ||| 1 : Nat) : Int) := u16_or_nat n 1 hn (by omega)
  have o2 : bits .or .u16 (n : Int) 2 = ((n ||| 2 : Nat) : Int) := u16_or_nat n 2 hn (by omega)
  have o3 : bits .or .u16 ((n ||| 1 : Nat) : Int) 2 = ((n ||| 1 ||| 2 : Nat) : Int) := u16_or_nat (n ||| 1) 2 hl1 (by omega)
  have e3 : o &&& 3 = (o &&& 1) ||| (o &&& 2) := by rw [← Nat.and_or_distrib_left]; rfl
  have c1 : o &&& 1 = 0 ∨ o &&& 1 = 1 := by rw [Nat.and_one_is_mod]; omega
  have c2 : o &&& 2 = 0 ∨ o &&& 2 = 2 := by
    have h1 : o &&& 2 ≤ 2 := Nat.and_le_right
    have h2 : (o &&& 2) % 2 = 0 := by rw [← Nat.and_one_is_mod, Nat.and_assoc]; exact Nat.and_zero _
    omega
  have hN : (n &&& 1 = 0 ∨ n &&& 1 ≠ 0) := by omega
  have q3 : ∀ k : Nat, ((k : Int) != 0) = decide (k ≠ 0) := fun k => by rw [Bool.eq_iff_iff]; simp
  unfold fl flA pin
  rw [a1, a2, a3, e3, q3, q3, q3]
  rcases c1 with c1 | c1 <;> rcases c2 with c2 | c2 <;> rcases hN with hN | hN <;> rw [c1, c2]
  · simp
  · simp
  · simp [o2]
  · simp [o2]
  · rw [hN, o1]; simp
  · rw [decide_eq_true hN, Nat.or_zero, or_one n hN]; simp
  · rw [hN, o1]; simp only [ne_eq, decide_not]; simp [o3, Nat.or_assoc]
  · rw [decide_eq_true hN, ← Nat.or_assoc, or_one n hN]; simp [o2]
theorem fl_swap (n a b : Int) (hn : 0 ≤ n ∧ n ≤ 65535) (ha : 0 ≤ a ∧ a ≤ 65535) (hb : 0 ≤ b ∧ b ≤ 65535) : fl (fl n b) a = fl (fl n a) b := by
  obtain ⟨n, rfl⟩ := Int.eq_ofNat_of_zero_le hn.1
  obtain ⟨a, rfl⟩ := Int.eq_ofNat_of_zero_le ha.1
  obtain ⟨b, rfl⟩ := Int.eq_ofNat_of_zero_le hb.1
  have l1 : ∀ a : Nat, n ||| (a &&& 3) < 65536 := fun a => Nat.or_lt_two_pow (n := 16) (by omega) (Nat.lt_of_le_of_lt Nat.and_le_right (by omega))
  rw [fl_nat n a (by omega) (by omega), fl_nat n b (by omega) (by omega), fl_nat _ _ (l1 _) (by omega), fl_nat _ _ (l1 _) (by omega), Nat.or_assoc, Nat.or_assoc, Nat.or_comm (b &&& 3)]
theorem fl_bit (n a : Int) (hn : 0 ≤ n ∧ n ≤ 65535) (ha : 0 ≤ a ∧ a ≤ 65535) : (bits .and .u16 (fl n a) 1 != 0) = ((bits .and .u16 n 1 != 0) || (bits .and .u16 a 1 != 0)) := by
  obtain ⟨n, rfl⟩ := Int.eq_ofNat_of_zero_le hn.1
  obtain ⟨a, rfl⟩ := Int.eq_ofNat_of_zero_le ha.1
  have l1 : n ||| (a &&& 3) < 65536 := Nat.or_lt_two_pow (n := 16) (by omega) (Nat.lt_of_le_of_lt Nat.and_le_right (by omega))
  rw [fl_nat n a (by omega) (by omega)]
  have a1 : bits .and .u16 (n : Int) 1 = ((n &&& 1 : Nat) : Int) := u16_and_nat n 1 (by omega) (by omega)
  have a2 : bits .and .u16 (a : Int) 1 = ((a &&& 1 : Nat) : Int) := u16_and_nat a 1 (by omega) (by omega)
  have a3 : bits .and .u16 ((n ||| (a &&& 3) : Nat) : Int) 1 = (((n ||| (a &&& 3)) &&& 1 : Nat) : Int) := u16_and_nat _ 1 l1 (by omega)
  rw [a1, a2, a3, Nat.and_or_distrib_right, Nat.and_assoc]
  show ((((n &&& 1) ||| (a &&& 1) : Nat) : Int) != 0) = _
  have h := Nat.or_eq_zero_iff (n := n &&& 1) (m := a &&& 1)
  rw [Bool.eq_iff_iff]
  simp only [bne_iff_ne, Bool.or_eq_true, ne_eq]
  omega
theorem cnt_swap (n a b : Int) : cnt (cnt n b) a = cnt (cnt n a) b := by unfold cnt; omega
theorem nm_swap (nn an bn : ByteArray) (n a b : Int) (hn : 0 ≤ n ∧ n ≤ 65535) (ha : 0 ≤ a ∧ a ≤ 65535) (hb : 0 ≤ b ∧ b ≤ 65535)
    (h : (bits .and .u16 n 1 != 0) = true ∨ (bits .and .u16 a 1 != 0) = false ∨ (bits .and .u16 b 1 != 0) = false) :
    nm (nm nn bn n b) an (fl n b) a = nm (nm nn an n a) bn (fl n a) b := by
  unfold nm pin
  rw [fl_bit n a hn ha, fl_bit n b hn hb]
  rcases h with h | h | h <;> rw [h] <;> simp

theorem walk (a0 : Int) (a1 : ByteArray) (a2 : Int) (a3 : Int) (a4 : ByteArray) (a5 : Int) (a6 : Int) (a7 : ByteArray) (a8 : Int) (w0 : (Lit.int .u16 a0).wf = true) (w1 : a1.size ≤ maxLen) (w2 : (Lit.int .u32 a2).wf = true) (w3 : (Lit.int .u16 a3).wf = true) (w4 : a4.size ≤ maxLen) (w5 : (Lit.int .u32 a5).wf = true) (w6 : (Lit.int .u16 a6).wf = true) (w7 : a7.size ≤ maxLen) (w8 : (Lit.int .u32 a8).wf = true) (w : World) :
    Calls Try.prog 6 #[.int .u16 a0, .string a1, .int .u32 a2, .int .u16 a3, .string a4, .int .u32 a5, .int .u16 a6, .string a7, .int .u32 a8] w fun e w' => e = .returned (.bool true) ∧ Below w.heap.size w w' := by
  have b0 : 0 ≤ a0 ∧ a0 ≤ 65535 := by simpa [Lit.wf_int_iff, IntKind.min_u16, IntKind.max_u16] using w0
  have b3 : 0 ≤ a3 ∧ a3 ≤ 65535 := by simpa [Lit.wf_int_iff, IntKind.min_u16, IntKind.max_u16] using w3
  have b6 : 0 ≤ a6 ∧ a6 ≤ 65535 := by simpa [Lit.wf_int_iff, IntKind.min_u16, IntKind.max_u16] using w6
  clear w0 w2 w3 w5 w6 w8
  by_cases hf : fitsB (a1.size + a4.size + a7.size) = false
  · go_enter Try.func6, Try.ntmps6
    go_wp2_with (go_at_call 12; ((with_reducible refine (zz _ _ _ _ _ _ _ _ _ _ w1 w4 w7).mono ?_); rintro e w' ⟨rfl, rfl⟩))
    go_ret
    exact ⟨rfl, Below.refl _ _⟩
  rw [Bool.not_eq_false] at hf
  have hs : a1.size + a4.size + a7.size ≤ 1048576 := by simpa [fitsB] using hf
  by_cases h1 : 262144 < a1.size
  · go_enter Try.func6, Try.ntmps6
    go_wp2_with (go_at_call 12; ((with_reducible refine (zz _ _ _ _ _ _ _ _ _ _ w1 w4 w7).mono ?_); rintro e w' ⟨rfl, rfl⟩))
    go_ret
    exact ⟨rfl, Below.refl _ _⟩
  by_cases h4 : 262144 < a4.size
  · go_enter Try.func6, Try.ntmps6
    go_wp2_with (go_at_call 12; ((with_reducible refine (zz _ _ _ _ _ _ _ _ _ _ w1 w4 w7).mono ?_); rintro e w' ⟨rfl, rfl⟩))
    go_ret
    exact ⟨rfl, Below.refl _ _⟩
  by_cases h7 : 262144 < a7.size
  · go_enter Try.func6, Try.ntmps6
    go_wp2_with (go_at_call 12; ((with_reducible refine (zz _ _ _ _ _ _ _ _ _ _ w1 w4 w7).mono ?_); rintro e w' ⟨rfl, rfl⟩))
    go_ret
    exact ⟨rfl, Below.refl _ _⟩
  go_enter Try.func6, Try.ntmps6
  go_wp2_with (first | (go_at_call 12; ((with_reducible refine (zz _ _ _ _ _ _ _ _ _ _ w1 w4 w7).mono ?_); rintro e w' ⟨rfl, rfl⟩)) | (go_at_call 13; ((with_reducible refine (mk _ _ _ _ _).mono ?_); rintro e w' ⟨rfl, rfl⟩)))
  refine (merge _ _ a1 a4 a2 a5 a0 a3 _ (by omega) ⟨by go_simp, by go_simp, by go_simp, by go_simp, by go_simp, by go_simp⟩ ⟨by go_simp, by go_simp, by go_simp, by go_simp, by go_simp, by go_simp⟩).mono ?_
  rintro e w1 ⟨rfl, X1, hO, B1⟩
  have Y1 := hO (w.heap.size + 1 + 1 + 1) a1 a2 a0 (by omega) ⟨by go_simp, by go_simp, by go_simp, by go_simp, by go_simp, by go_simp⟩
  have A1 := hO (w.heap.size + 1 + 1 + 1 + 1 + 1) a4 a5 a3 (by omega) ⟨by go_simp, by go_simp, by go_simp, by go_simp, by go_simp, by go_simp⟩
  have Z1 := hO (w.heap.size + 1 + 1 + 1 + 1 + 1 + 1 + 1) a7 a8 a6 (by omega) ⟨by go_simp, by go_simp, by go_simp, by go_simp, by go_simp, by go_simp⟩
  clear hO
  go_wp2_with fail
  refine (merge _ _ _ _ _ _ _ _ _ (by omega) X1 Z1).mono ?_
  rintro e w2 ⟨rfl, X2, hO, B2⟩
  have Y2 := hO _ _ _ _ (by omega) Y1
  have A2 := hO _ _ _ _ (by omega) A1
  have Z2 := hO _ _ _ _ (by omega) Z1
  clear hO X1 Y1 A1 Z1
  go_wp2_with fail
  refine (merge _ _ _ _ _ _ _ _ _ (by omega) Y2 Z2).mono ?_
  rintro e w3 ⟨rfl, Y3, hO, B3⟩
  have X3 := hO _ _ _ _ (by omega) X2
  have A3 := hO _ _ _ _ (by omega) A2
  clear hO X2 Y2 A2 Z2
  go_wp2_with fail
  refine (merge _ _ _ _ _ _ _ _ _ (by omega) Y3 A3).mono ?_
  rintro e w4 ⟨rfl, Y4, hO, B4⟩
  have X4 := hO _ _ _ _ (by omega) X3
  clear hO X3 Y3 A3
  rw [fl_swap a0 a3 a6 b0 b3 b6, cnt_swap a2 a5 a8] at Y4
  obtain ⟨x1, x2, x3, _, _, _⟩ := X4
  obtain ⟨y1, y2, y3, _, _, _⟩ := Y4
  have HB : Below w.heap.size w w4 := by
    refine ((((?_ : Below w.heap.size w _).trans (B1.mono (by omega))).trans (B2.mono (by omega))).trans (B3.mono (by omega))).trans (B4.mono (by omega))
    repeat (first | exact Below.refl _ _ | (refine Below.alloc ?_ (by simp; try omega) _))
  clear B1 B2 B3 B4
  go_wp2_with fail
  all_goals
    go_ret
    refine ⟨?_, HB⟩
    first
      | rfl
      | (have hd : (bits .and .u16 a0 1 != 0) = true ∨ (bits .and .u16 a3 1 != 0) = false ∨ (bits .and .u16 a6 1 != 0) = false := by
          first
            | (left; simpa using ‹¬ bits .and .u16 a0 1 = 0›)
            | (right; left; simpa using ‹bits .and .u16 a3 1 = 0›)
            | (right; right
               rcases ‹(bits .and .u16 a3 1 == 0) = true ∨ (bits .and .u16 a6 1 == 0) = true› with h | h
               · exact absurd (by simpa using h) ‹¬ bits .and .u16 a3 1 = 0›
               · simpa using h)
         show Ending.returned (.bool ((nm (nm a1 a4 a0 a3) a7 (fl a0 a3) a6).toList == (nm (nm a1 a7 a0 a6) a4 (fl a0 a6) a3).toList)) = _
         rw [nm_swap a1 a4 a7 a0 a3 a6 b0 b3 b6 hd]
         simp)

/-! ### THE ROW's STEP: WRITTEN OUT: LEAVE IT -/
set_option maxRecDepth 100000 in
theorem lifted (os : Os) (started : os.Started) (H : Type) (enc : TypeId × Value → H) :
    ReturnsInHanded {} Try.checked os 6 .any (Rows.fnMergeContentsOrderFreeInCountAndFlagsSpec.pre6 enc Try.prog Try.f6 Rows.fnMergeContentsOrderFreeInCountAndFlagsRow.domain false) (Rows.fnMergeContentsOrderFreeInCountAndFlagsSpec.post enc Try.prog Try.f6 false true false false) := by
  refine returnsInHanded_of_change (C := Try.checked) own started (by kernel_rfl) Try.func6
    (ChangeSpec.witness6 (enc := enc) (C := Try.checked) false ⟨#[], #[.int .u16 0, .string ByteArray.empty, .int .u32 0, .int .u16 0, .string ByteArray.empty, .int .u32 0, .int .u16 0, .string ByteArray.empty, .int .u32 0], []⟩ 8 (by kernel_rfl) (by kernel_rfl) (by kernel_rfl) (by kernel_rfl)) ?_
  intro W base args ds gs before hval0 hW hcnd _
  have hval : ∀ (j : Nat) t v, Try.f6.params[j]? = some t → args[j]? = some v → Value.okWide Try.prog W .any base t v := hval0
  have hW' := hW
  obtain ⟨p, q, hA0, hV, rfl, hfz, hnd⟩ := hW
  have hA : DataW.TrodAll enc Try.prog W 0 (fun _ => true) true Try.f6.params.toList args.toList ds p := hA0
  rw [Try.params6] at hA hval
  obtain ⟨v0, vs0, d0, ds0, p0, q0, hargs, rfl, rfl, h0, r0⟩ := trodAll_cons hA
  obtain ⟨v1, vs1, d1, ds1, p1, q1, rfl, rfl, rfl, h1, r1⟩ := trodAll_cons r0
  obtain ⟨v2, vs2, d2, ds2, p2, q2, rfl, rfl, rfl, h2, r2⟩ := trodAll_cons r1
  obtain ⟨v3, vs3, d3, ds3, p3, q3, rfl, rfl, rfl, h3, r3⟩ := trodAll_cons r2
  obtain ⟨v4, vs4, d4, ds4, p4, q4, rfl, rfl, rfl, h4, r4⟩ := trodAll_cons r3
  obtain ⟨v5, vs5, d5, ds5, p5, q5, rfl, rfl, rfl, h5, r5⟩ := trodAll_cons r4
  obtain ⟨v6, vs6, d6, ds6, p6, q6, rfl, rfl, rfl, h6, r6⟩ := trodAll_cons r5
  obtain ⟨v7, vs7, d7, ds7, p7, q7, rfl, rfl, rfl, h7, r7⟩ := trodAll_cons r6
  obtain ⟨v8, vs8, d8, ds8, p8, q8, rfl, rfl, rfl, h8, r8⟩ := trodAll_cons r7
  obtain ⟨rfl, rfl, rfl⟩ := trodAll_nil r8
  obtain rfl : args = #[v0, v1, v2, v3, v4, v5, v6, v7, v8] := by cases args; simp_all
  obtain ⟨rfl, rfl⟩ := trodVars_none hV
  obtain ⟨a0, rfl, rfl, rfl, w0⟩ := open_int Try.underlying36 (hval 0 36 v0 rfl rfl) h0
  obtain ⟨a1, rfl, rfl, rfl, w1⟩ := open_string Try.underlying9 (hval 1 9 v1 rfl rfl) h1
  obtain ⟨a2, rfl, rfl, rfl, w2⟩ := open_int Try.underlying37 (hval 2 37 v2 rfl rfl) h2
  obtain ⟨a3, rfl, rfl, rfl, w3⟩ := open_int Try.underlying36 (hval 3 36 v3 rfl rfl) h3
  obtain ⟨a4, rfl, rfl, rfl, w4⟩ := open_string Try.underlying9 (hval 4 9 v4 rfl rfl) h4
  obtain ⟨a5, rfl, rfl, rfl, w5⟩ := open_int Try.underlying37 (hval 5 37 v5 rfl rfl) h5
  obtain ⟨a6, rfl, rfl, rfl, w6⟩ := open_int Try.underlying36 (hval 6 36 v6 rfl rfl) h6
  obtain ⟨a7, rfl, rfl, rfl, w7⟩ := open_string Try.underlying9 (hval 7 9 v7 rfl rfl) h7
  obtain ⟨a8, rfl, rfl, rfl, w8⟩ := open_int Try.underlying37 (hval 8 37 v8 rfl rfl) h8
  clear hA0 hval0
  simp only [List.append_nil] at hW'
  refine (walk a0 a1 a2 a3 a4 a5 a6 a7 a8 w0 w1 w2 w3 w4 w5 w6 w7 w8 W).mono fun e W' ⟨he, hg⟩ => ?_
  subst he
  exact ⟨_, rfl, _, _, _, [], [], [], hW', (trodAll_cons_mk (shut_bool Try.underlying4 _) trodAll_mk0), (trodAll_cons_mk (shut_int Try.underlying36 w0) (trodAll_cons_mk (shut_string Try.underlying9 w1) (trodAll_cons_mk (shut_int Try.underlying37 w2) (trodAll_cons_mk (shut_int Try.underlying36 w3) (trodAll_cons_mk (shut_string Try.underlying9 w4) (trodAll_cons_mk (shut_int Try.underlying37 w5) (trodAll_cons_mk (shut_int Try.underlying36 w6) (trodAll_cons_mk (shut_string Try.underlying9 w7) (trodAll_cons_mk (shut_int Try.underlying37 w8) trodAll_mk0))))))))), rfl, hg.frame _, fun h => by cases h⟩

theorem joined : joinedFacts Try.prog 6 Try.f6 Rows.fnMergeContentsOrderFreeInCountAndFlagsSpec Rows.fnMergeContentsOrderFreeInCountAndFlagsRow = true := by
  unfold joinedFacts
  rw [Facts.enter, Facts.lifts, Facts.make]
  kernel_rfl

theorem over : Rows.fnMergeContentsOrderFreeInCountAndFlagsRow.holds Try.pinned (OpenSpec.ofChange Rows.fnMergeContentsOrderFreeInCountAndFlagsSpec) :=
  OpenClaim.holds_of_wide 6 Try.f6 rfl rfl rfl rfl rfl rfl rfl ⟨rfl, rfl, rfl, rfl, rfl⟩ rfl rfl rfl rfl rfl (by kernel_rfl) Try.func6 joined
    (of_decide_eq_true (by kernel_rfl)) (by unfold Func.isWrapper; first | (rw [if_pos (by decide +kernel)]; kernel_rfl) | (rw [if_neg (by decide +kernel)]; exact ⟨rfl, rfl⟩))
    (fun os started H enc _ => lifted os started H enc)

/-- ████ THE STATEMENT ████ -/
theorem proved : Rows.FnMergeContentsOrderFreeInCountAndFlagsSaid :=
  over
#print axioms proved
end Go.Proofs.Ytanponbjfbgigaa.fnMergeContentsOrderFreeInCountAndFlags
