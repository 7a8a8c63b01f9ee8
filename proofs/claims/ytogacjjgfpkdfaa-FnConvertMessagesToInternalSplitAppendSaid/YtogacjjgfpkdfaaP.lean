/- Contracts of functions that the law of this seat reaches, and plain facts; no condition. -/
import Derived.Test.YtogacjjgfpkdfaaProg
import Derived.WalkKit
import Derived.ProofKit
import Derived.OpenShut
import Derived.ShutString
import Derived.Test.YtogacjjgfpkdfaaAid
import Derived.Test.YtogacjjgfpkdfaaFl
import Derived.Test.YtogacjjgfpkdfaaStr
import Derived.Test.YtogacjjgfpkdfaaPb
import Derived.Test.YtogacjjgfpkdfaaQd
import Derived.Test.YtogacjjgfpkdfaaAm
import Derived.Test.YtogacjjgfpkdfaaMp
import Derived.Test.YtogacjjgfpkdfaaO
import Derived.Test.YtogacjjgfpkdfaaH
import Derived.Test.YtogacjjgfpkdfaaAid
import Derived.Maps.RangeRun
import Derived.Carry
import Derived.Laws.IdiomRangeMap
import Derived.ArgAppend
import Derived.Maps.Own
import Derived.WalkSmall
import Derived.WalkSpells
import Derived.Laws.Externs
import Derived.WalkLawsBesides
import Derived.LoopTactic
import Derived.Deep.CutBlock
import Derived.Deep.DeepCutAuto
import Derived.IntWalk
import Derived.Outline
import Derived.Deep.QuietTactic
import Derived.BigQuiet
import Derived.RegionTactic
import Derived.Deep.RegionHeld3
import Derived.Deep.MidRow
import Derived.StillTailTactics
import Derived.BigRegion
import Derived.Laws.OwnMore
import Derived.Laws.Rows
namespace Go.Proofs.Ytogacjjgfpkdfaa.Aux
open Go.ChangeShapes Go.WideShapes Go.ChangeAt Go.RowKit
open Go.ChangeMaps (open_string shut_string)
set_option linter.unusedVariables false
set_option linter.unusedSimpArgs false
open Fl Str Pb Qd Am Mp PlainAid Aux
open Go.ChangeMaps
theorem msgs_take {w : World} {a : Option Addr} {n c : Nat} {M : Nat → MD} (h : MsgsIn w a n M) (hc : c ≤ n) : MsgsIn w a c M :=
  ⟨fun e => by have := h.1 e; omega, fun i hi => h.2 i (by omega)⟩
theorem msgs_drop {w : World} {b o n c : Nat} {M : Nat → MD} (h : MsgsIn w (some ⟨b, o, none⟩) n M) : MsgsIn w (some ⟨b, o + c * 12, none⟩) (n - c) (fun i => M (c + i)) :=
  ⟨(fun e => by cases e), fun i hi => by
    obtain ⟨b', o', na, nc, e, h1, h2⟩ := h.2 (c + i) (by omega)
    injection e with e
    injection e with e1 e2
    subst e1 e2
    exact ⟨b, o + c * 12, na, nc, rfl, by rw [show o + c * 12 + i * 12 = o + (c + i) * 12 by rw [Nat.add_mul]; omega]; exact h1, h2⟩⟩
theorem msgs_nil {w : World} {a : Option Addr} {M : Nat → MD} : MsgsIn w a 0 M := ⟨fun _ => rfl, fun i hi => absurd hi (Nat.not_lt_zero _)⟩
/-- What a conversion hands back, of N messages. -/
def CW (w : World) (B : Nat) (v0 : Value) (m : Nat) (xs0 : List Value) (M : Nat → MD) (n N : Nat) (kind : Int) (e : Ending) (w' : World) : Prop :=
  ∃ a' c', e = .returned (.slice a' N c') ∧ Hid (∃ ys, KO w B v0 m xs0 M kind n w' (.slice a' N c') ys)
theorem conv7n (a0 : Option Addr) (m c0 : Nat) (xs0 : List Value) (kind : Int) (ab n N : Nat) (hN : m + n = N) (M : Nat → MD) (B : Nat) (w : World) (hown : w.ownsRow B 37 8 (.slice a0 m c0) m xs0) (hpk : PK w (.slice a0 m c0) xs0) (hB : B ≤ w.heap.size) (h : AMsgs w ab n M) (hm20 : m ≤ 1048576) (hn20 : n ≤ 1048576) (hnl : ∀ i, i < n → (M i).nl ≤ 1048576) :
    Calls Try.prog 7 #[.slice a0 m c0, .int .u8 kind, .slice (some ⟨ab, 0, none⟩) n n] w (CW w B (.slice a0 m c0) m xs0 M n N kind) := by
  subst hN
  exact conv7 a0 m c0 xs0 kind ab n M B w hown hpk hB h hm20 hn20 hnl
/-- A row of messages, read. -/
def Rows (w : World) (a : Option Addr) (n : Nat) (M : Nat → MD) (kind : Int) : Prop :=
  ∀ i, i < n → ∃ g p nv, a = some ⟨g, 0, none⟩ ∧ g < w.heap.size ∧ At w g (i * 8) (icell (M i) nv p kind) ∧ ILoc w (.pointer p) (M i).loc.opt ∧ INotes w nv (M i).nl (M i).nd
theorem Rows.below {w w' : World} {a : Option Addr} {n : Nat} {M : Nat → MD} {kind : Int} (h : Rows w a n M kind) (hb : Below w.heap.size w w') : Rows w' a n M kind := fun i hi => by
  obtain ⟨g, p, nv, e, h0, h1, h2, h3⟩ := h i hi
  exact ⟨g, p, nv, e, Nat.lt_of_lt_of_le h0 hb.size, h1.below h0 hb, h2.below hb, inotes_below h3 hb⟩
theorem own_some {w : World} {base size n m c : Nat} {e : TypeId} {a : Option Addr} {xs : List Value} (h : w.ownsRow base e size (.slice a n c) m xs) (hm : 0 < m) : ∃ g, a = some ⟨g, 0, none⟩ ∧ g < w.heap.size ∧ base ≤ g := by
  rcases h.2 with ⟨_, e0⟩ | ⟨g, cap, cur, e0, h1, h2, _⟩
  · omega
  · injection e0 with e0 _ _
    exact ⟨g, e0, ilt h2, h1⟩
theorem own_at2 {w : World} {base size n m g c : Nat} {e : TypeId} {xs : List Value} (h : w.ownsRow base e size (.slice (some ⟨g, 0, none⟩) n c) m xs) {o : Nat} {cs : List Value} (hs : Seg xs o cs) : At w g o cs := fun j v hj => by
  have := h.cells (g := g) rfl (o + j) v (hs j v hj)
  have e : (⟨g, 0, none⟩ : Addr).add (o + j) = ⟨g, o + j, none⟩ := by unfold Addr.add; simp; try omega
  rwa [e] at this
/-- The row that was converted, from nothing. -/
theorem rows_of {w w' : World} {B : Nat} {M : Nat → MD} {kind : Int} {n c : Nat} {a : Option Addr} {ys : List Value} (h : KO w B (.slice none 0 0) 0 [] M kind n w' (.slice a n c) ys) : Rows w' a n M kind := fun i hi => by
  have ho := h.own
  obtain ⟨g, e, hg, _⟩ := own_some ho (by omega)
  subst e
  obtain ⟨p, nv, h1, h2, h3⟩ := h.row i hi
  exact ⟨g, p, nv, rfl, hg, own_at2 ho h1, h2, h3⟩
/-- The row that was converted onto another: both rows. -/
theorem rows_onto {w0 w1 w w' : World} {B B0 : Nat} {M : Nat → MD} {kind : Int} {n c c1 c2 : Nat} {a1 a2 : Option Addr} {xs ys : List Value} (hcn : c ≤ n)
    (h1 : KO w0 B0 (.slice none 0 0) 0 [] M kind c w1 (.slice a1 c c1) xs) (hb : Below w1.heap.size w1 w)
    (h2 : KO w B (.slice a1 c c1) c xs (fun i => M (c + i)) kind (n - c) w' (.slice a2 n c2) ys) : Rows w' a2 n M kind ∧ Rows w' a1 c M kind := by
  have ho1 := h1.own
  have ho := owns_below ho1 hb
  have hsep := sep_own ho
  have key : ∀ i, i < c → ∃ p nv, Seg xs (i * 8) (icell (M i) nv p kind) ∧ ILoc w' (.pointer p) (M i).loc.opt ∧ INotes w' nv (M i).nl (M i).nd := fun i hi => by
    obtain ⟨p, nv, q1, q2, q3⟩ := h1.row i hi
    exact ⟨p, nv, q1, iloc_chg h2.ch hsep (q2.below hb) (by decide), inotes_chg h2.ch hsep (inotes_below q3 hb) (by decide) (by decide)⟩
  refine ⟨fun i hi => ?_, fun i hi => ?_⟩
  · have ho2 := h2.own
    obtain ⟨g, e, hg, _⟩ := own_some ho2 (by omega)
    subst e
    by_cases hic : i < c
    · obtain ⟨p, nv, q1, q2, q3⟩ := key i hic
      exact ⟨g, p, nv, rfl, hg, own_at2 ho2 (seg_left q1), q2, q3⟩
    · obtain ⟨p, nv, q1, q2, q3⟩ := h2.row (i - c) (by omega)
      rw [show c + (i - c) = i by omega] at q1 q2 q3
      refine ⟨g, p, nv, rfl, hg, own_at2 ho2 (fun j v hj => ?_), q2, q3⟩
      have hxl : xs.length = c * 8 := h1.len
      have := q1 j v hj
      rw [List.getElem?_append_right (by rw [hxl]; omega), hxl, show i * 8 + j - c * 8 = (i - c) * 8 + j by rw [Nat.sub_mul]; omega]
      exact this
  · obtain ⟨g, e, hg, _⟩ := own_some ho (by omega)
    subst e
    obtain ⟨p, nv, q1, q2, q3⟩ := key i hi
    exact ⟨g, p, nv, rfl, Nat.lt_of_lt_of_le hg h2.ch.size, fun j v hj => h2.pk g rfl _ v (q1 j v hj), q2, q3⟩
theorem below_onto {w w' : World} {B m n c : Nat} {a : Option Addr} {xs0 ys : List Value} {M : Nat → MD} {kind : Int} {v : Value} (h : KO w B (.slice a m c) m xs0 M kind n w' v ys) (ho : w.ownsRow B 37 8 (.slice a m c) m xs0) (hB : B ≤ w.heap.size) : Below B w w' :=
  h.ch.below hB (fun k e => (ho.lt k e).1)
theorem pk_own {w : World} {B m c k : Nat} {a : Option Addr} {e : TypeId} {s : Nat} {xs : List Value} (h : w.ownsRow B e s (.slice a m c) k xs) : PK w (.slice a m c) xs := fun g hg j u hj => by
  have := h.cells hg j u hj
  have e : (⟨g, 0, none⟩ : Addr).add j = ⟨g, j, none⟩ := by unfold Addr.add; simp; try omega
  rwa [e] at this
def Okk (w : World) (e : Ending) (w' : World) : Prop := e = .returned (.bool true) ∧ Below w.heap.size w w'
set_option maxRecDepth 100000 in
set_option maxHeartbeats 40000000 in
/-- A cut out of range. -/
theorem mainBad (a : Option Addr) (n cap : Nat) (M : Nat → MD) (cut kind : Int) (w : World) (h : MsgsIn w a n M) (hbad : cut < 0 ∨ (n : Int) < cut) : Calls Try.prog 3 #[.slice a n cap, .int .i64 cut, .int .u8 kind] w (Okk w) := by
  have HM := Lib.hid h
  clear h
  go_enter Try.func3, Try.ntmps3
  go_wp2_with fail
  refine (zb a n cap M cut kind w HM.out).mono ?_
  rintro e w ⟨v, rfl, rfl, HV⟩
  cases v with
  | false =>
    go_wp2_with fail
    go_ret
    exact ⟨rfl, Below.refl _ _⟩
  | true =>
    obtain ⟨hn20, hnl⟩ := HV.out rfl
    go_wp2_with fail
    refine (bytes5 a n cap M w HM.out hn20 hnl).mono ?_
    rintro e w2 ⟨t, rfl, HB⟩
    clear hnl
    by_cases ht : (1048576 : Int) < t
    · go_wp2_with fail
      go_ret
      exact ⟨rfl, HB.out⟩
    · by_cases hneg : cut < 0
      · go_wp2_with fail
        go_ret
        exact ⟨rfl, HB.out⟩
      · have hbig : (n : Int) < cut := by omega
        go_wp2_with fail
        go_ret
        exact ⟨rfl, HB.out⟩

set_option maxRecDepth 100000 in
set_option maxHeartbeats 40000000 in
theorem mainCut (a : Option Addr) (n cap : Nat) (M : Nat → MD) (c : Nat) (kind : Int) (w : World) (h : MsgsIn w a n M) (hc : a = none → cap = 0) (hcn : c ≤ n) (hlt : c < n) : Calls Try.prog 3 #[.slice a n cap, .int .i64 (c : Int), .int .u8 kind] w (Okk w) := by
  have HM := Lib.hid h
  clear h
  go_enter Try.func3, Try.ntmps3
  go_wp2_with fail
  refine (zb a n cap M c kind w HM.out).mono ?_
  rintro e w ⟨v, rfl, rfl, HV⟩
  cases v with
  | false =>
    go_wp2_with fail
    go_ret
    exact ⟨rfl, Below.refl _ _⟩
  | true =>
    obtain ⟨hn20, hnl⟩ := HV.out rfl
    have HNL := Lib.hid hnl
    clear HV hnl
    go_wp2_with fail
    refine (bytes5 a n cap M w HM.out hn20 HNL.out).mono ?_
    rintro e w1 ⟨t, rfl, HB1⟩
    by_cases ht : (1048576 : Int) < t
    · go_wp2_with fail
      go_ret
      exact ⟨rfl, HB1.out⟩
    · have hneg : ¬ (c : Int) < 0 := by omega
      have hbig : ¬ (n : Int) < (c : Int) := by omega
      go_wp2_with fail
      refine (clone6 a n cap M w1 (HM.out.below HB1.out) hc hn20 HNL.out).mono ?_
      rintro e w2 ⟨a2, rfl, HM2, HB2⟩
      obtain ⟨b, o, rfl, _⟩ := MsgsIn.block HM2.out (by omega)
      have HBa := Lib.hid (HB1.out.trans (HB2.out.mono HB1.out.size))
      clear HM HB1 hc ht
      go_wp2_with fail
      refine (build8 (some ⟨b, o, none⟩) n n M w2 HM2.out hn20 HNL.out).mono ?_
      rintro e w3 ⟨b3, rfl, HA3, HB3⟩
      go_wp2_with fail
      refine (conv7n none 0 0 [] kind b3 n n (Nat.zero_add n) M w3.heap.size w3 (World.ownsRow_nil _ _ _ _) (fun g e => by cases e) (Nat.le_refl _) HA3.out (by omega) hn20 HNL.out).mono ?_
      rintro e w4 ⟨a4, c4, rfl, HK4⟩
      obtain ⟨ys4, hK4⟩ := HK4.out
      have HB4 : Hid (Below w3.heap.size w3 w4) := Lib.hid (below_onto hK4 (World.ownsRow_nil _ _ _ _) (Nat.le_refl _))
      have HR4 := Lib.hid (rows_of hK4)
      have HB24 := Lib.hid (HB3.out.trans (HB4.out.mono HB3.out.size))
      have HBb := Lib.hid (HBa.out.trans (HB24.out.mono HBa.out.size))
      have HM4 := Lib.hid (HM2.out.below HB24.out)
      clear HK4 hK4 HA3 HM2 HB24
      go_wp2_with fail
      refine (build8 (some ⟨b, o, none⟩) c n M w4 (msgs_take HM4.out (by omega)) (by omega) (fun i hi => HNL.out i (by omega))).mono ?_
      rintro e w5 ⟨b5, rfl, HA5, HB5⟩
      go_wp2_with fail
      refine (conv7n none 0 0 [] kind b5 c c (Nat.zero_add c) M w5.heap.size w5 (World.ownsRow_nil _ _ _ _) (fun g e => by cases e) (Nat.le_refl _) HA5.out (by omega) (by omega) (fun i hi => HNL.out i (by omega))).mono ?_
      rintro e w6 ⟨a6, c6, rfl, HK6⟩
      obtain ⟨xs6, hK6⟩ := HK6.out
      have HK := Lib.hid hK6
      have HB6 : Hid (Below w5.heap.size w5 w6) := Lib.hid (below_onto hK6 (World.ownsRow_nil _ _ _ _) (Nat.le_refl _))
      have HM6 := Lib.hid ((HM4.out.below HB5.out).below HB6.out)
      have HR5 := Lib.hid (HR4.out.below HB5.out)
      have HO6 : Hid (w6.ownsRow w5.heap.size 37 8 (.slice a6 c c6) c xs6) := Lib.hid (by have := hK6.own; rwa [Nat.zero_add, List.nil_append] at this)
      clear HK6 hK6 HA5 HM4 HR4
      have hcz : (0 : Int) ≤ (c : Int) := by omega
      have hcl : (c : Int) < (n : Int) := by omega
      go_wp2_with fail
      refine (build8 (some ⟨b, o + c * 12, none⟩) (n - c) (n - c) (fun i => M (c + i)) w6 (msgs_drop HM6.out) (by omega) (fun i hi => HNL.out (c + i) (by omega))).mono ?_
      rintro e w7 ⟨b7, rfl, HA7, HB7⟩
      have HO7 := Lib.hid (owns_below HO6.out HB7.out)
      have hsz7 : w5.heap.size ≤ w7.heap.size := Nat.le_trans HB6.out.size HB7.out.size
      go_wp2_with fail
      refine (conv7n a6 c c6 xs6 kind b7 (n - c) n (by omega) (fun i => M (c + i)) w5.heap.size w7 HO7.out (pk_own HO7.out) hsz7 HA7.out (by omega) (by omega) (fun i hi => HNL.out (c + i) (by omega))).mono ?_
      rintro e w9 ⟨a9, c9, rfl, HK9⟩
      obtain ⟨ys9, hK9⟩ := HK9.out
      have hr9 := rows_onto (n := n) (Nat.le_of_not_lt (by omega)) HK.out HB7.out hK9
      have HRb := Lib.hid hr9.1
      have HRf := Lib.hid hr9.2
      have HB59 := Lib.hid ((HB6.out.trans (HB7.out.mono HB6.out.size)).trans (below_onto hK9 HO7.out hsz7))
      have HRw := Lib.hid (HR5.out.below HB59.out)
      have HBall := Lib.hid ((HBb.out.trans (HB5.out.mono HBb.out.size)).trans (HB59.out.mono (Nat.le_trans HBb.out.size HB5.out.size)))
      clear HK9 hK9 hr9 HA7 HO7 HO6 HM6 HR5 HK
      go_wp2_with fail
      go_loopw [12] (fun s12 wr => ∃ i : Nat, i ≤ n ∧ s12 = .int .i64 i ∧ Hid (Below w9.heap.size w9 wr)) (fun s12 _ => n - (intOf s12).toNat)
      case atStart => exact ⟨0, by omega, rfl, Lib.hid (Below.refl _ _)⟩
      case round =>
        obtain ⟨i, hi, rfl, HJ⟩ := hrel
        by_cases hlt : i < n
        · have hiz : (i : Int) < (n : Int) := by omega
          have hi0 : (0 : Int) ≤ (i : Int) := by omega
          have hnlm := HNL.out i (by omega)
          obtain ⟨g1, p1, nv1, e1, hg1, hA1, hL1, hN1⟩ := HRb.out i (by omega)
          subst e1
          obtain ⟨na1, nc1, rfl, _⟩ := inotes_slice hN1
          obtain ⟨g2, p2, nv2, e2, hg2, hA2, hL2, hN2⟩ := HRw.out i (by omega)
          subst e2
          obtain ⟨na2, nc2, rfl, _⟩ := inotes_slice hN2
          obtain ⟨mm, hm⟩ : ∃ mm, M i = mm := ⟨_, rfl⟩
          rw [hm] at hA1 hA2 hL1 hL2 hN1 hN2 hnlm
          have r1 := hA1.below hg1 HJ.out
          have s10 := r1 0 _ rfl
          rw [Nat.add_zero] at s10
          have s11 := r1 1 _ rfl
          have s12 := r1 2 _ rfl
          have s13 := r1 3 _ rfl
          have s14 := r1 4 _ rfl
          have s15 := r1 5 _ rfl
          have s16 := r1 6 _ rfl
          have s17 := r1 7 _ rfl
          have hgw1 := Nat.lt_of_lt_of_le hg1 HJ.out.size
          have HL1 := Lib.hid (hL1.below HJ.out)
          have HN1 := Lib.hid (inotes_below hN1 HJ.out)
          have r2 := hA2.below hg2 HJ.out
          have s20 := r2 0 _ rfl
          rw [Nat.add_zero] at s20
          have s21 := r2 1 _ rfl
          have s22 := r2 2 _ rfl
          have s23 := r2 3 _ rfl
          have s24 := r2 4 _ rfl
          have s25 := r2 5 _ rfl
          have s26 := r2 6 _ rfl
          have s27 := r2 7 _ rfl
          have hgw2 := Nat.lt_of_lt_of_le hg2 HJ.out.size
          have HL2 := Lib.hid (hL2.below HJ.out)
          have HN2 := Lib.hid (inotes_below hN2 HJ.out)
          have HX := Lib.hid hm
          clear hA1 hA2 hL1 hL2 hN1 hN2 r1 r2 hm
          go_wp2_with fail
          go_region_held3 (fun w' => w'.cell? ⟨g1, i * 8, none⟩ = some (.slice na1 mm.nl nc1) ∧ w'.cell? ⟨g1, i * 8 + 1, none⟩ = some (.string mm.plug) ∧ w'.cell? ⟨g1, i * 8 + 2, none⟩ = some .nilIface ∧ w'.cell? ⟨g1, i * 8 + 3, none⟩ = some (.pointer p1) ∧ w'.cell? ⟨g1, i * 8 + 4, none⟩ = some (.string mm.text) ∧ w'.cell? ⟨g1, i * 8 + 5, none⟩ = some (.bool false) ∧ w'.cell? ⟨g1, i * 8 + 6, none⟩ = some (.int .u8 kind) ∧ w'.cell? ⟨g1, i * 8 + 7, none⟩ = some (.int .u8 (mx mm.id : Nat)) ∧ w'.cell? ⟨g2, i * 8, none⟩ = some (.slice na2 mm.nl nc2) ∧ w'.cell? ⟨g2, i * 8 + 1, none⟩ = some (.string mm.plug) ∧ w'.cell? ⟨g2, i * 8 + 2, none⟩ = some .nilIface ∧ w'.cell? ⟨g2, i * 8 + 3, none⟩ = some (.pointer p2) ∧ w'.cell? ⟨g2, i * 8 + 4, none⟩ = some (.string mm.text) ∧ w'.cell? ⟨g2, i * 8 + 5, none⟩ = some (.bool false) ∧ w'.cell? ⟨g2, i * 8 + 6, none⟩ = some (.int .u8 kind) ∧ w'.cell? ⟨g2, i * 8 + 7, none⟩ = some (.int .u8 (mx mm.id : Nat)))
            (first | with_reducible exact ⟨cell_dr s10, cell_dr s11, cell_dr s12, cell_dr s13, cell_dr s14, cell_dr s15, cell_dr s16, cell_dr s17, cell_dr s20, cell_dr s21, cell_dr s22, cell_dr s23, cell_dr s24, cell_dr s25, cell_dr s26, cell_dr s27⟩ | with_reducible exact HS5.out)
            ((go_at_call 9
              refine (msgEq9 mm kind (.slice na1 mm.nl nc1) (.slice na2 mm.nl nc2) p1 p2 wr.drew (show ILoc wr.drew _ _ from HL1.out) (show ILoc wr.drew _ _ from HL2.out) (show INotes wr.drew _ _ _ from HN1.out) (show INotes wr.drew _ _ _ from HN2.out) hnlm).mono ?_
              rintro e w5' ⟨rfl, hb5⟩
              have HB5' := Lib.hid (below_of_drew hb5.out)
              have HS5 : Hid ((fun w' => w'.cell? ⟨g1, i * 8, none⟩ = some (.slice na1 mm.nl nc1) ∧ w'.cell? ⟨g1, i * 8 + 1, none⟩ = some (.string mm.plug) ∧ w'.cell? ⟨g1, i * 8 + 2, none⟩ = some .nilIface ∧ w'.cell? ⟨g1, i * 8 + 3, none⟩ = some (.pointer p1) ∧ w'.cell? ⟨g1, i * 8 + 4, none⟩ = some (.string mm.text) ∧ w'.cell? ⟨g1, i * 8 + 5, none⟩ = some (.bool false) ∧ w'.cell? ⟨g1, i * 8 + 6, none⟩ = some (.int .u8 kind) ∧ w'.cell? ⟨g1, i * 8 + 7, none⟩ = some (.int .u8 (mx mm.id : Nat)) ∧ w'.cell? ⟨g2, i * 8, none⟩ = some (.slice na2 mm.nl nc2) ∧ w'.cell? ⟨g2, i * 8 + 1, none⟩ = some (.string mm.plug) ∧ w'.cell? ⟨g2, i * 8 + 2, none⟩ = some .nilIface ∧ w'.cell? ⟨g2, i * 8 + 3, none⟩ = some (.pointer p2) ∧ w'.cell? ⟨g2, i * 8 + 4, none⟩ = some (.string mm.text) ∧ w'.cell? ⟨g2, i * 8 + 5, none⟩ = some (.bool false) ∧ w'.cell? ⟨g2, i * 8 + 6, none⟩ = some (.int .u8 kind) ∧ w'.cell? ⟨g2, i * 8 + 7, none⟩ = some (.int .u8 (mx mm.id : Nat))) w5') := Lib.hid ⟨(HB5'.out.cell (p := ⟨g1, i * 8, none⟩) hgw1).trans s10, (HB5'.out.cell (p := ⟨g1, i * 8 + 1, none⟩) hgw1).trans s11, (HB5'.out.cell (p := ⟨g1, i * 8 + 2, none⟩) hgw1).trans s12, (HB5'.out.cell (p := ⟨g1, i * 8 + 3, none⟩) hgw1).trans s13, (HB5'.out.cell (p := ⟨g1, i * 8 + 4, none⟩) hgw1).trans s14, (HB5'.out.cell (p := ⟨g1, i * 8 + 5, none⟩) hgw1).trans s15, (HB5'.out.cell (p := ⟨g1, i * 8 + 6, none⟩) hgw1).trans s16, (HB5'.out.cell (p := ⟨g1, i * 8 + 7, none⟩) hgw1).trans s17, (HB5'.out.cell (p := ⟨g2, i * 8, none⟩) hgw2).trans s20, (HB5'.out.cell (p := ⟨g2, i * 8 + 1, none⟩) hgw2).trans s21, (HB5'.out.cell (p := ⟨g2, i * 8 + 2, none⟩) hgw2).trans s22, (HB5'.out.cell (p := ⟨g2, i * 8 + 3, none⟩) hgw2).trans s23, (HB5'.out.cell (p := ⟨g2, i * 8 + 4, none⟩) hgw2).trans s24, (HB5'.out.cell (p := ⟨g2, i * 8 + 5, none⟩) hgw2).trans s25, (HB5'.out.cell (p := ⟨g2, i * 8 + 6, none⟩) hgw2).trans s26, (HB5'.out.cell (p := ⟨g2, i * 8 + 7, none⟩) hgw2).trans s27⟩))
          go_wp2_with fail
          go_roundw
          case rel => exact ⟨i + 1, by omega, by go_num, Lib.hid (HJ.out.trans (HB5'.out.mono HJ.out.size))⟩
          case measure => simp [intOf]; omega
        · have hiz : ¬ (i : Int) < (n : Int) := by omega
          go_wp2_with fail
          go_loopw [13] (fun s13 wr => ∃ i : Nat, i ≤ c ∧ s13 = .int .i64 i ∧ Hid (Below w9.heap.size w9 wr)) (fun s13 _ => c - (intOf s13).toNat)
          case atStart => exact ⟨0, by omega, rfl, HJ⟩
          case round =>
            obtain ⟨i, hi, rfl, HJ⟩ := hrel
            by_cases hlt : i < c
            · have hiz : (i : Int) < (c : Int) := by omega
              have hi0 : (0 : Int) ≤ (i : Int) := by omega
              have hin : (i : Int) < (n : Int) := by omega
              have hnlm := HNL.out i (by omega)
              obtain ⟨g1, p1, nv1, e1, hg1, hA1, hL1, hN1⟩ := HRf.out i (by omega)
              subst e1
              obtain ⟨na1, nc1, rfl, _⟩ := inotes_slice hN1
              obtain ⟨g2, p2, nv2, e2, hg2, hA2, hL2, hN2⟩ := HRb.out i (by omega)
              subst e2
              obtain ⟨na2, nc2, rfl, _⟩ := inotes_slice hN2
              obtain ⟨mm, hm⟩ : ∃ mm, M i = mm := ⟨_, rfl⟩
              rw [hm] at hA1 hA2 hL1 hL2 hN1 hN2 hnlm
              have r1 := hA1.below hg1 HJ.out
              have s10 := r1 0 _ rfl
              rw [Nat.add_zero] at s10
              have s11 := r1 1 _ rfl
              have s12 := r1 2 _ rfl
              have s13 := r1 3 _ rfl
              have s14 := r1 4 _ rfl
              have s15 := r1 5 _ rfl
              have s16 := r1 6 _ rfl
              have s17 := r1 7 _ rfl
              have hgw1 := Nat.lt_of_lt_of_le hg1 HJ.out.size
              have HL1 := Lib.hid (hL1.below HJ.out)
              have HN1 := Lib.hid (inotes_below hN1 HJ.out)
              have r2 := hA2.below hg2 HJ.out
              have s20 := r2 0 _ rfl
              rw [Nat.add_zero] at s20
              have s21 := r2 1 _ rfl
              have s22 := r2 2 _ rfl
              have s23 := r2 3 _ rfl
              have s24 := r2 4 _ rfl
              have s25 := r2 5 _ rfl
              have s26 := r2 6 _ rfl
              have s27 := r2 7 _ rfl
              have hgw2 := Nat.lt_of_lt_of_le hg2 HJ.out.size
              have HL2 := Lib.hid (hL2.below HJ.out)
              have HN2 := Lib.hid (inotes_below hN2 HJ.out)
              have HX := Lib.hid hm
              clear hA1 hA2 hL1 hL2 hN1 hN2 r1 r2 hm
              go_wp2_with fail
              go_region_held3 (fun w' => w'.cell? ⟨g1, i * 8, none⟩ = some (.slice na1 mm.nl nc1) ∧ w'.cell? ⟨g1, i * 8 + 1, none⟩ = some (.string mm.plug) ∧ w'.cell? ⟨g1, i * 8 + 2, none⟩ = some .nilIface ∧ w'.cell? ⟨g1, i * 8 + 3, none⟩ = some (.pointer p1) ∧ w'.cell? ⟨g1, i * 8 + 4, none⟩ = some (.string mm.text) ∧ w'.cell? ⟨g1, i * 8 + 5, none⟩ = some (.bool false) ∧ w'.cell? ⟨g1, i * 8 + 6, none⟩ = some (.int .u8 kind) ∧ w'.cell? ⟨g1, i * 8 + 7, none⟩ = some (.int .u8 (mx mm.id : Nat)) ∧ w'.cell? ⟨g2, i * 8, none⟩ = some (.slice na2 mm.nl nc2) ∧ w'.cell? ⟨g2, i * 8 + 1, none⟩ = some (.string mm.plug) ∧ w'.cell? ⟨g2, i * 8 + 2, none⟩ = some .nilIface ∧ w'.cell? ⟨g2, i * 8 + 3, none⟩ = some (.pointer p2) ∧ w'.cell? ⟨g2, i * 8 + 4, none⟩ = some (.string mm.text) ∧ w'.cell? ⟨g2, i * 8 + 5, none⟩ = some (.bool false) ∧ w'.cell? ⟨g2, i * 8 + 6, none⟩ = some (.int .u8 kind) ∧ w'.cell? ⟨g2, i * 8 + 7, none⟩ = some (.int .u8 (mx mm.id : Nat)))
                (first | with_reducible exact ⟨cell_dr s10, cell_dr s11, cell_dr s12, cell_dr s13, cell_dr s14, cell_dr s15, cell_dr s16, cell_dr s17, cell_dr s20, cell_dr s21, cell_dr s22, cell_dr s23, cell_dr s24, cell_dr s25, cell_dr s26, cell_dr s27⟩ | with_reducible exact HS5.out)
                ((go_at_call 9
                  refine (msgEq9 mm kind (.slice na1 mm.nl nc1) (.slice na2 mm.nl nc2) p1 p2 wr.drew (show ILoc wr.drew _ _ from HL1.out) (show ILoc wr.drew _ _ from HL2.out) (show INotes wr.drew _ _ _ from HN1.out) (show INotes wr.drew _ _ _ from HN2.out) hnlm).mono ?_
                  rintro e w5' ⟨rfl, hb5⟩
                  have HB5' := Lib.hid (below_of_drew hb5.out)
                  have HS5 : Hid ((fun w' => w'.cell? ⟨g1, i * 8, none⟩ = some (.slice na1 mm.nl nc1) ∧ w'.cell? ⟨g1, i * 8 + 1, none⟩ = some (.string mm.plug) ∧ w'.cell? ⟨g1, i * 8 + 2, none⟩ = some .nilIface ∧ w'.cell? ⟨g1, i * 8 + 3, none⟩ = some (.pointer p1) ∧ w'.cell? ⟨g1, i * 8 + 4, none⟩ = some (.string mm.text) ∧ w'.cell? ⟨g1, i * 8 + 5, none⟩ = some (.bool false) ∧ w'.cell? ⟨g1, i * 8 + 6, none⟩ = some (.int .u8 kind) ∧ w'.cell? ⟨g1, i * 8 + 7, none⟩ = some (.int .u8 (mx mm.id : Nat)) ∧ w'.cell? ⟨g2, i * 8, none⟩ = some (.slice na2 mm.nl nc2) ∧ w'.cell? ⟨g2, i * 8 + 1, none⟩ = some (.string mm.plug) ∧ w'.cell? ⟨g2, i * 8 + 2, none⟩ = some .nilIface ∧ w'.cell? ⟨g2, i * 8 + 3, none⟩ = some (.pointer p2) ∧ w'.cell? ⟨g2, i * 8 + 4, none⟩ = some (.string mm.text) ∧ w'.cell? ⟨g2, i * 8 + 5, none⟩ = some (.bool false) ∧ w'.cell? ⟨g2, i * 8 + 6, none⟩ = some (.int .u8 kind) ∧ w'.cell? ⟨g2, i * 8 + 7, none⟩ = some (.int .u8 (mx mm.id : Nat))) w5') := Lib.hid ⟨(HB5'.out.cell (p := ⟨g1, i * 8, none⟩) hgw1).trans s10, (HB5'.out.cell (p := ⟨g1, i * 8 + 1, none⟩) hgw1).trans s11, (HB5'.out.cell (p := ⟨g1, i * 8 + 2, none⟩) hgw1).trans s12, (HB5'.out.cell (p := ⟨g1, i * 8 + 3, none⟩) hgw1).trans s13, (HB5'.out.cell (p := ⟨g1, i * 8 + 4, none⟩) hgw1).trans s14, (HB5'.out.cell (p := ⟨g1, i * 8 + 5, none⟩) hgw1).trans s15, (HB5'.out.cell (p := ⟨g1, i * 8 + 6, none⟩) hgw1).trans s16, (HB5'.out.cell (p := ⟨g1, i * 8 + 7, none⟩) hgw1).trans s17, (HB5'.out.cell (p := ⟨g2, i * 8, none⟩) hgw2).trans s20, (HB5'.out.cell (p := ⟨g2, i * 8 + 1, none⟩) hgw2).trans s21, (HB5'.out.cell (p := ⟨g2, i * 8 + 2, none⟩) hgw2).trans s22, (HB5'.out.cell (p := ⟨g2, i * 8 + 3, none⟩) hgw2).trans s23, (HB5'.out.cell (p := ⟨g2, i * 8 + 4, none⟩) hgw2).trans s24, (HB5'.out.cell (p := ⟨g2, i * 8 + 5, none⟩) hgw2).trans s25, (HB5'.out.cell (p := ⟨g2, i * 8 + 6, none⟩) hgw2).trans s26, (HB5'.out.cell (p := ⟨g2, i * 8 + 7, none⟩) hgw2).trans s27⟩))
              go_wp2_with fail
              go_roundw
              case rel => exact ⟨i + 1, by omega, by go_num, Lib.hid (HJ.out.trans (HB5'.out.mono HJ.out.size))⟩
              case measure => simp [intOf]; omega
            · have hiz : ¬ (i : Int) < (c : Int) := by omega
              go_wp2_with fail
              go_ret
              exact ⟨rfl, HBall.out.trans (HJ.out.mono HBall.out.size)⟩
set_option maxRecDepth 100000 in
set_option maxHeartbeats 40000000 in
theorem mainEndN (a : Option Addr) (n cap : Nat) (M : Nat → MD) (kind : Int) (w : World) (h : MsgsIn w a n M) (hc : a = none → cap = 0) : Calls Try.prog 3 #[.slice a n cap, .int .i64 (n : Int), .int .u8 kind] w (Okk w) := by
  have HM := Lib.hid h
  clear h
  go_enter Try.func3, Try.ntmps3
  go_wp2_with fail
  refine (zb a n cap M n kind w HM.out).mono ?_
  rintro e w ⟨v, rfl, rfl, HV⟩
  cases v with
  | false =>
    go_wp2_with fail
    go_ret
    exact ⟨rfl, Below.refl _ _⟩
  | true =>
    obtain ⟨hn20, hnl⟩ := HV.out rfl
    have HNL := Lib.hid hnl
    clear HV hnl
    go_wp2_with fail
    refine (bytes5 a n cap M w HM.out hn20 HNL.out).mono ?_
    rintro e w1 ⟨t, rfl, HB1⟩
    by_cases ht : (1048576 : Int) < t
    · go_wp2_with fail
      go_ret
      exact ⟨rfl, HB1.out⟩
    · have hneg : ¬ (n : Int) < 0 := by omega
      have hbig : ¬ (n : Int) < (n : Int) := by omega
      go_wp2_with fail
      refine (clone6 a n cap M w1 (HM.out.below HB1.out) hc hn20 HNL.out).mono ?_
      rintro e w2 ⟨a2, rfl, HM2, HB2⟩
      have HBa := Lib.hid (HB1.out.trans (HB2.out.mono HB1.out.size))
      clear HM HB1 hc ht
      go_wp2_with fail
      refine (build8 a2 n n M w2 HM2.out hn20 HNL.out).mono ?_
      rintro e w3 ⟨b3, rfl, HA3, HB3⟩
      go_wp2_with fail
      refine (conv7n none 0 0 [] kind b3 n n (Nat.zero_add n) M w3.heap.size w3 (World.ownsRow_nil _ _ _ _) (fun g e => by cases e) (Nat.le_refl _) HA3.out (by omega) hn20 HNL.out).mono ?_
      rintro e w4 ⟨a4, c4, rfl, HK4⟩
      obtain ⟨ys4, hK4⟩ := HK4.out
      have HB4 : Hid (Below w3.heap.size w3 w4) := Lib.hid (below_onto hK4 (World.ownsRow_nil _ _ _ _) (Nat.le_refl _))
      have HR4 := Lib.hid (rows_of hK4)
      have HB24 := Lib.hid (HB3.out.trans (HB4.out.mono HB3.out.size))
      have HBb := Lib.hid (HBa.out.trans (HB24.out.mono HBa.out.size))
      have HM4 := Lib.hid (HM2.out.below HB24.out)
      clear HK4 hK4 HA3 HM2 HB24
      go_wp2_with fail
      refine (build8 a2 n n M w4 (msgs_take HM4.out (by omega)) (by omega) (fun i hi => HNL.out i (by omega))).mono ?_
      rintro e w5 ⟨b5, rfl, HA5, HB5⟩
      go_wp2_with fail
      refine (conv7n none 0 0 [] kind b5 n n (Nat.zero_add n) M w5.heap.size w5 (World.ownsRow_nil _ _ _ _) (fun g e => by cases e) (Nat.le_refl _) HA5.out (by omega) (by omega) (fun i hi => HNL.out i (by omega))).mono ?_
      rintro e w6 ⟨a6, c6, rfl, HK6⟩
      obtain ⟨xs6, hK6⟩ := HK6.out
      have HK := Lib.hid hK6
      have HB6 : Hid (Below w5.heap.size w5 w6) := Lib.hid (below_onto hK6 (World.ownsRow_nil _ _ _ _) (Nat.le_refl _))
      have HM6 := Lib.hid ((HM4.out.below HB5.out).below HB6.out)
      have HR5 := Lib.hid (HR4.out.below HB5.out)
      have HO6 : Hid (w6.ownsRow w5.heap.size 37 8 (.slice a6 n c6) n xs6) := Lib.hid (by have := hK6.own; rwa [Nat.zero_add, List.nil_append] at this)
      clear HK6 hK6 HA5 HM4 HR4
      have hcz : (0 : Int) ≤ (n : Int) := by omega

      go_wp2_with fail
      refine (build8 _ 0 _ (fun i => M (n + i)) w6 msgs_nil (by omega) (fun i hi => absurd hi (Nat.not_lt_zero _))).mono ?_
      rintro e w7 ⟨b7, rfl, HA7, HB7⟩
      have HO7 := Lib.hid (owns_below HO6.out HB7.out)
      have hsz7 : w5.heap.size ≤ w7.heap.size := Nat.le_trans HB6.out.size HB7.out.size
      go_wp2_with fail
      refine (conv7n a6 n c6 xs6 kind b7 0 n (Nat.add_zero n) (fun i => M (n + i)) w5.heap.size w7 HO7.out (pk_own HO7.out) hsz7 HA7.out (by omega) (by omega) (fun i hi => HNL.out (n + i) (by omega))).mono ?_
      rintro e w9 ⟨a9, c9, rfl, HK9⟩
      obtain ⟨ys9, hK9⟩ := HK9.out
      have hr9 := rows_onto (n := n) (Nat.le_of_not_lt (by omega)) HK.out HB7.out (by rw [Nat.sub_self]; exact hK9)
      have HRb := Lib.hid hr9.1
      have HRf := Lib.hid hr9.2
      have HB59 := Lib.hid ((HB6.out.trans (HB7.out.mono HB6.out.size)).trans (below_onto hK9 HO7.out hsz7))
      have HRw := Lib.hid (HR5.out.below HB59.out)
      have HBall := Lib.hid ((HBb.out.trans (HB5.out.mono HBb.out.size)).trans (HB59.out.mono (Nat.le_trans HBb.out.size HB5.out.size)))
      clear HK9 hK9 hr9 HA7 HO7 HO6 HM6 HR5 HK
      go_wp2_with fail
      go_loopw [12] (fun s12 wr => ∃ i : Nat, i ≤ n ∧ s12 = .int .i64 i ∧ Hid (Below w9.heap.size w9 wr)) (fun s12 _ => n - (intOf s12).toNat)
      case atStart => exact ⟨0, by omega, rfl, Lib.hid (Below.refl _ _)⟩
      case round =>
        obtain ⟨i, hi, rfl, HJ⟩ := hrel
        by_cases hlt : i < n
        · have hiz : (i : Int) < (n : Int) := by omega
          have hi0 : (0 : Int) ≤ (i : Int) := by omega
          have hnlm := HNL.out i (by omega)
          obtain ⟨g1, p1, nv1, e1, hg1, hA1, hL1, hN1⟩ := HRb.out i (by omega)
          subst e1
          obtain ⟨na1, nc1, rfl, _⟩ := inotes_slice hN1
          obtain ⟨g2, p2, nv2, e2, hg2, hA2, hL2, hN2⟩ := HRw.out i (by omega)
          subst e2
          obtain ⟨na2, nc2, rfl, _⟩ := inotes_slice hN2
          obtain ⟨mm, hm⟩ : ∃ mm, M i = mm := ⟨_, rfl⟩
          rw [hm] at hA1 hA2 hL1 hL2 hN1 hN2 hnlm
          have r1 := hA1.below hg1 HJ.out
          have s10 := r1 0 _ rfl
          rw [Nat.add_zero] at s10
          have s11 := r1 1 _ rfl
          have s12 := r1 2 _ rfl
          have s13 := r1 3 _ rfl
          have s14 := r1 4 _ rfl
          have s15 := r1 5 _ rfl
          have s16 := r1 6 _ rfl
          have s17 := r1 7 _ rfl
          have hgw1 := Nat.lt_of_lt_of_le hg1 HJ.out.size
          have HL1 := Lib.hid (hL1.below HJ.out)
          have HN1 := Lib.hid (inotes_below hN1 HJ.out)
          have r2 := hA2.below hg2 HJ.out
          have s20 := r2 0 _ rfl
          rw [Nat.add_zero] at s20
          have s21 := r2 1 _ rfl
          have s22 := r2 2 _ rfl
          have s23 := r2 3 _ rfl
          have s24 := r2 4 _ rfl
          have s25 := r2 5 _ rfl
          have s26 := r2 6 _ rfl
          have s27 := r2 7 _ rfl
          have hgw2 := Nat.lt_of_lt_of_le hg2 HJ.out.size
          have HL2 := Lib.hid (hL2.below HJ.out)
          have HN2 := Lib.hid (inotes_below hN2 HJ.out)
          have HX := Lib.hid hm
          clear hA1 hA2 hL1 hL2 hN1 hN2 r1 r2 hm
          go_wp2_with fail
          go_region_held3 (fun w' => w'.cell? ⟨g1, i * 8, none⟩ = some (.slice na1 mm.nl nc1) ∧ w'.cell? ⟨g1, i * 8 + 1, none⟩ = some (.string mm.plug) ∧ w'.cell? ⟨g1, i * 8 + 2, none⟩ = some .nilIface ∧ w'.cell? ⟨g1, i * 8 + 3, none⟩ = some (.pointer p1) ∧ w'.cell? ⟨g1, i * 8 + 4, none⟩ = some (.string mm.text) ∧ w'.cell? ⟨g1, i * 8 + 5, none⟩ = some (.bool false) ∧ w'.cell? ⟨g1, i * 8 + 6, none⟩ = some (.int .u8 kind) ∧ w'.cell? ⟨g1, i * 8 + 7, none⟩ = some (.int .u8 (mx mm.id : Nat)) ∧ w'.cell? ⟨g2, i * 8, none⟩ = some (.slice na2 mm.nl nc2) ∧ w'.cell? ⟨g2, i * 8 + 1, none⟩ = some (.string mm.plug) ∧ w'.cell? ⟨g2, i * 8 + 2, none⟩ = some .nilIface ∧ w'.cell? ⟨g2, i * 8 + 3, none⟩ = some (.pointer p2) ∧ w'.cell? ⟨g2, i * 8 + 4, none⟩ = some (.string mm.text) ∧ w'.cell? ⟨g2, i * 8 + 5, none⟩ = some (.bool false) ∧ w'.cell? ⟨g2, i * 8 + 6, none⟩ = some (.int .u8 kind) ∧ w'.cell? ⟨g2, i * 8 + 7, none⟩ = some (.int .u8 (mx mm.id : Nat)))
            (first | with_reducible exact ⟨cell_dr s10, cell_dr s11, cell_dr s12, cell_dr s13, cell_dr s14, cell_dr s15, cell_dr s16, cell_dr s17, cell_dr s20, cell_dr s21, cell_dr s22, cell_dr s23, cell_dr s24, cell_dr s25, cell_dr s26, cell_dr s27⟩ | with_reducible exact HS5.out)
            ((go_at_call 9
              refine (msgEq9 mm kind (.slice na1 mm.nl nc1) (.slice na2 mm.nl nc2) p1 p2 wr.drew (show ILoc wr.drew _ _ from HL1.out) (show ILoc wr.drew _ _ from HL2.out) (show INotes wr.drew _ _ _ from HN1.out) (show INotes wr.drew _ _ _ from HN2.out) hnlm).mono ?_
              rintro e w5' ⟨rfl, hb5⟩
              have HB5' := Lib.hid (below_of_drew hb5.out)
              have HS5 : Hid ((fun w' => w'.cell? ⟨g1, i * 8, none⟩ = some (.slice na1 mm.nl nc1) ∧ w'.cell? ⟨g1, i * 8 + 1, none⟩ = some (.string mm.plug) ∧ w'.cell? ⟨g1, i * 8 + 2, none⟩ = some .nilIface ∧ w'.cell? ⟨g1, i * 8 + 3, none⟩ = some (.pointer p1) ∧ w'.cell? ⟨g1, i * 8 + 4, none⟩ = some (.string mm.text) ∧ w'.cell? ⟨g1, i * 8 + 5, none⟩ = some (.bool false) ∧ w'.cell? ⟨g1, i * 8 + 6, none⟩ = some (.int .u8 kind) ∧ w'.cell? ⟨g1, i * 8 + 7, none⟩ = some (.int .u8 (mx mm.id : Nat)) ∧ w'.cell? ⟨g2, i * 8, none⟩ = some (.slice na2 mm.nl nc2) ∧ w'.cell? ⟨g2, i * 8 + 1, none⟩ = some (.string mm.plug) ∧ w'.cell? ⟨g2, i * 8 + 2, none⟩ = some .nilIface ∧ w'.cell? ⟨g2, i * 8 + 3, none⟩ = some (.pointer p2) ∧ w'.cell? ⟨g2, i * 8 + 4, none⟩ = some (.string mm.text) ∧ w'.cell? ⟨g2, i * 8 + 5, none⟩ = some (.bool false) ∧ w'.cell? ⟨g2, i * 8 + 6, none⟩ = some (.int .u8 kind) ∧ w'.cell? ⟨g2, i * 8 + 7, none⟩ = some (.int .u8 (mx mm.id : Nat))) w5') := Lib.hid ⟨(HB5'.out.cell (p := ⟨g1, i * 8, none⟩) hgw1).trans s10, (HB5'.out.cell (p := ⟨g1, i * 8 + 1, none⟩) hgw1).trans s11, (HB5'.out.cell (p := ⟨g1, i * 8 + 2, none⟩) hgw1).trans s12, (HB5'.out.cell (p := ⟨g1, i * 8 + 3, none⟩) hgw1).trans s13, (HB5'.out.cell (p := ⟨g1, i * 8 + 4, none⟩) hgw1).trans s14, (HB5'.out.cell (p := ⟨g1, i * 8 + 5, none⟩) hgw1).trans s15, (HB5'.out.cell (p := ⟨g1, i * 8 + 6, none⟩) hgw1).trans s16, (HB5'.out.cell (p := ⟨g1, i * 8 + 7, none⟩) hgw1).trans s17, (HB5'.out.cell (p := ⟨g2, i * 8, none⟩) hgw2).trans s20, (HB5'.out.cell (p := ⟨g2, i * 8 + 1, none⟩) hgw2).trans s21, (HB5'.out.cell (p := ⟨g2, i * 8 + 2, none⟩) hgw2).trans s22, (HB5'.out.cell (p := ⟨g2, i * 8 + 3, none⟩) hgw2).trans s23, (HB5'.out.cell (p := ⟨g2, i * 8 + 4, none⟩) hgw2).trans s24, (HB5'.out.cell (p := ⟨g2, i * 8 + 5, none⟩) hgw2).trans s25, (HB5'.out.cell (p := ⟨g2, i * 8 + 6, none⟩) hgw2).trans s26, (HB5'.out.cell (p := ⟨g2, i * 8 + 7, none⟩) hgw2).trans s27⟩))
          go_wp2_with fail
          go_roundw
          case rel => exact ⟨i + 1, by omega, by go_num, Lib.hid (HJ.out.trans (HB5'.out.mono HJ.out.size))⟩
          case measure => simp [intOf]; omega
        · have hiz : ¬ (i : Int) < (n : Int) := by omega
          go_wp2_with fail
          go_loopw [13] (fun s13 wr => ∃ i : Nat, i ≤ n ∧ s13 = .int .i64 i ∧ Hid (Below w9.heap.size w9 wr)) (fun s13 _ => n - (intOf s13).toNat)
          case atStart => exact ⟨0, by omega, rfl, HJ⟩
          case round =>
            obtain ⟨i, hi, rfl, HJ⟩ := hrel
            by_cases hlt : i < n
            · have hiz : (i : Int) < (n : Int) := by omega
              have hi0 : (0 : Int) ≤ (i : Int) := by omega
              have hnlm := HNL.out i (by omega)
              obtain ⟨g1, p1, nv1, e1, hg1, hA1, hL1, hN1⟩ := HRf.out i (by omega)
              subst e1
              obtain ⟨na1, nc1, rfl, _⟩ := inotes_slice hN1
              obtain ⟨g2, p2, nv2, e2, hg2, hA2, hL2, hN2⟩ := HRb.out i (by omega)
              subst e2
              obtain ⟨na2, nc2, rfl, _⟩ := inotes_slice hN2
              obtain ⟨mm, hm⟩ : ∃ mm, M i = mm := ⟨_, rfl⟩
              rw [hm] at hA1 hA2 hL1 hL2 hN1 hN2 hnlm
              have r1 := hA1.below hg1 HJ.out
              have s10 := r1 0 _ rfl
              rw [Nat.add_zero] at s10
              have s11 := r1 1 _ rfl
              have s12 := r1 2 _ rfl
              have s13 := r1 3 _ rfl
              have s14 := r1 4 _ rfl
              have s15 := r1 5 _ rfl
              have s16 := r1 6 _ rfl
              have s17 := r1 7 _ rfl
              have hgw1 := Nat.lt_of_lt_of_le hg1 HJ.out.size
              have HL1 := Lib.hid (hL1.below HJ.out)
              have HN1 := Lib.hid (inotes_below hN1 HJ.out)
              have r2 := hA2.below hg2 HJ.out
              have s20 := r2 0 _ rfl
              rw [Nat.add_zero] at s20
              have s21 := r2 1 _ rfl
              have s22 := r2 2 _ rfl
              have s23 := r2 3 _ rfl
              have s24 := r2 4 _ rfl
              have s25 := r2 5 _ rfl
              have s26 := r2 6 _ rfl
              have s27 := r2 7 _ rfl
              have hgw2 := Nat.lt_of_lt_of_le hg2 HJ.out.size
              have HL2 := Lib.hid (hL2.below HJ.out)
              have HN2 := Lib.hid (inotes_below hN2 HJ.out)
              have HX := Lib.hid hm
              clear hA1 hA2 hL1 hL2 hN1 hN2 r1 r2 hm
              go_wp2_with fail
              go_region_held3 (fun w' => w'.cell? ⟨g1, i * 8, none⟩ = some (.slice na1 mm.nl nc1) ∧ w'.cell? ⟨g1, i * 8 + 1, none⟩ = some (.string mm.plug) ∧ w'.cell? ⟨g1, i * 8 + 2, none⟩ = some .nilIface ∧ w'.cell? ⟨g1, i * 8 + 3, none⟩ = some (.pointer p1) ∧ w'.cell? ⟨g1, i * 8 + 4, none⟩ = some (.string mm.text) ∧ w'.cell? ⟨g1, i * 8 + 5, none⟩ = some (.bool false) ∧ w'.cell? ⟨g1, i * 8 + 6, none⟩ = some (.int .u8 kind) ∧ w'.cell? ⟨g1, i * 8 + 7, none⟩ = some (.int .u8 (mx mm.id : Nat)) ∧ w'.cell? ⟨g2, i * 8, none⟩ = some (.slice na2 mm.nl nc2) ∧ w'.cell? ⟨g2, i * 8 + 1, none⟩ = some (.string mm.plug) ∧ w'.cell? ⟨g2, i * 8 + 2, none⟩ = some .nilIface ∧ w'.cell? ⟨g2, i * 8 + 3, none⟩ = some (.pointer p2) ∧ w'.cell? ⟨g2, i * 8 + 4, none⟩ = some (.string mm.text) ∧ w'.cell? ⟨g2, i * 8 + 5, none⟩ = some (.bool false) ∧ w'.cell? ⟨g2, i * 8 + 6, none⟩ = some (.int .u8 kind) ∧ w'.cell? ⟨g2, i * 8 + 7, none⟩ = some (.int .u8 (mx mm.id : Nat)))
                (first | with_reducible exact ⟨cell_dr s10, cell_dr s11, cell_dr s12, cell_dr s13, cell_dr s14, cell_dr s15, cell_dr s16, cell_dr s17, cell_dr s20, cell_dr s21, cell_dr s22, cell_dr s23, cell_dr s24, cell_dr s25, cell_dr s26, cell_dr s27⟩ | with_reducible exact HS5.out)
                ((go_at_call 9
                  refine (msgEq9 mm kind (.slice na1 mm.nl nc1) (.slice na2 mm.nl nc2) p1 p2 wr.drew (show ILoc wr.drew _ _ from HL1.out) (show ILoc wr.drew _ _ from HL2.out) (show INotes wr.drew _ _ _ from HN1.out) (show INotes wr.drew _ _ _ from HN2.out) hnlm).mono ?_
                  rintro e w5' ⟨rfl, hb5⟩
                  have HB5' := Lib.hid (below_of_drew hb5.out)
                  have HS5 : Hid ((fun w' => w'.cell? ⟨g1, i * 8, none⟩ = some (.slice na1 mm.nl nc1) ∧ w'.cell? ⟨g1, i * 8 + 1, none⟩ = some (.string mm.plug) ∧ w'.cell? ⟨g1, i * 8 + 2, none⟩ = some .nilIface ∧ w'.cell? ⟨g1, i * 8 + 3, none⟩ = some (.pointer p1) ∧ w'.cell? ⟨g1, i * 8 + 4, none⟩ = some (.string mm.text) ∧ w'.cell? ⟨g1, i * 8 + 5, none⟩ = some (.bool false) ∧ w'.cell? ⟨g1, i * 8 + 6, none⟩ = some (.int .u8 kind) ∧ w'.cell? ⟨g1, i * 8 + 7, none⟩ = some (.int .u8 (mx mm.id : Nat)) ∧ w'.cell? ⟨g2, i * 8, none⟩ = some (.slice na2 mm.nl nc2) ∧ w'.cell? ⟨g2, i * 8 + 1, none⟩ = some (.string mm.plug) ∧ w'.cell? ⟨g2, i * 8 + 2, none⟩ = some .nilIface ∧ w'.cell? ⟨g2, i * 8 + 3, none⟩ = some (.pointer p2) ∧ w'.cell? ⟨g2, i * 8 + 4, none⟩ = some (.string mm.text) ∧ w'.cell? ⟨g2, i * 8 + 5, none⟩ = some (.bool false) ∧ w'.cell? ⟨g2, i * 8 + 6, none⟩ = some (.int .u8 kind) ∧ w'.cell? ⟨g2, i * 8 + 7, none⟩ = some (.int .u8 (mx mm.id : Nat))) w5') := Lib.hid ⟨(HB5'.out.cell (p := ⟨g1, i * 8, none⟩) hgw1).trans s10, (HB5'.out.cell (p := ⟨g1, i * 8 + 1, none⟩) hgw1).trans s11, (HB5'.out.cell (p := ⟨g1, i * 8 + 2, none⟩) hgw1).trans s12, (HB5'.out.cell (p := ⟨g1, i * 8 + 3, none⟩) hgw1).trans s13, (HB5'.out.cell (p := ⟨g1, i * 8 + 4, none⟩) hgw1).trans s14, (HB5'.out.cell (p := ⟨g1, i * 8 + 5, none⟩) hgw1).trans s15, (HB5'.out.cell (p := ⟨g1, i * 8 + 6, none⟩) hgw1).trans s16, (HB5'.out.cell (p := ⟨g1, i * 8 + 7, none⟩) hgw1).trans s17, (HB5'.out.cell (p := ⟨g2, i * 8, none⟩) hgw2).trans s20, (HB5'.out.cell (p := ⟨g2, i * 8 + 1, none⟩) hgw2).trans s21, (HB5'.out.cell (p := ⟨g2, i * 8 + 2, none⟩) hgw2).trans s22, (HB5'.out.cell (p := ⟨g2, i * 8 + 3, none⟩) hgw2).trans s23, (HB5'.out.cell (p := ⟨g2, i * 8 + 4, none⟩) hgw2).trans s24, (HB5'.out.cell (p := ⟨g2, i * 8 + 5, none⟩) hgw2).trans s25, (HB5'.out.cell (p := ⟨g2, i * 8 + 6, none⟩) hgw2).trans s26, (HB5'.out.cell (p := ⟨g2, i * 8 + 7, none⟩) hgw2).trans s27⟩))
              go_wp2_with fail
              go_roundw
              case rel => exact ⟨i + 1, by omega, by go_num, Lib.hid (HJ.out.trans (HB5'.out.mono HJ.out.size))⟩
              case measure => simp [intOf]; omega
            · have hiz : ¬ (i : Int) < (n : Int) := by omega
              go_wp2_with fail
              go_ret
              exact ⟨rfl, HBall.out.trans (HJ.out.mono HBall.out.size)⟩
theorem main3 (a : Option Addr) (n cap : Nat) (M : Nat → MD) (cut kind : Int) (w : World) (h : MsgsIn w a n M) (hc : a = none → cap = 0) : Calls Try.prog 3 #[.slice a n cap, .int .i64 cut, .int .u8 kind] w (Okk w) := by
  by_cases hbad : cut < 0 ∨ (n : Int) < cut
  · exact mainBad a n cap M cut kind w h hbad
  · obtain ⟨c, rfl⟩ : ∃ c : Nat, cut = (c : Int) := ⟨cut.toNat, by omega⟩
    by_cases hlt : c < n
    · exact mainCut a n cap M c kind w h hc (by omega) hlt
    · obtain rfl : c = n := by omega
      exact mainEndN a c cap M kind w h hc
end Go.Proofs.Ytogacjjgfpkdfaa.Aux
