/- Contracts of functions that the law of this seat reaches, and plain facts; no condition. -/
import Derived.Test.YtngflfjgappgmaaFmtProg
import Derived.WalkKit
import Derived.ProofKit
import Derived.OpenShut
import Derived.ShutString
import Derived.Test.YtngflfjgappgmaaFmtAid
import Derived.Test.YtngflfjgappgmaaFmtC
import Derived.Test.YtngflfjgappgmaaFmtB
import Derived.ArgAppend
import Derived.WalkSpells
import Derived.LoopTactic
import Derived.IntWalk
import Derived.Outline
import Derived.Deep.QuietTactic
import Derived.BigQuiet
import Derived.Deep.RegionHeld3
import Derived.Deep.RegionLaw
import Derived.StillTailTactics
namespace Go.Proofs.YtngflfjgappgmaaFmt.Aux
open Go.ChangeShapes Go.WideShapes Go.ChangeAt Go.RowKit
open Go.ChangeMaps (open_string shut_string)
set_option linter.unusedVariables false
open Fl Str Pb Qd Mp PlainAid Aux
/-- A list with one more at its end. -/
def ext (P : Nat → ByteArray) (n : Nat) (p : ByteArray) : Nat → ByteArray := fun i => if i < n then P i else p
theorem prs_congr (P S P' S' : Nat → ByteArray) : ∀ n, (∀ i, i < n → P' i = P i) → (∀ i, i < n → S' i = S i) → prs P' S' n = prs P S n
  | 0, _, _ => rfl
  | n + 1, h1, h2 => by simp only [prs]; rw [prs_congr P S P' S' n (fun i hi => h1 i (by omega)) (fun i hi => h2 i (by omega)), h1 n (by omega), h2 n (by omega)]
theorem prs_ext (P S : Nat → ByteArray) (n : Nat) (p q : ByteArray) : prs (ext P n p) (ext S n q) (n + 1) = prs P S n ++ [.string p, .string q] := by
  simp only [prs]
  rw [prs_congr P S _ _ n (fun i hi => by simp [ext, hi]) (fun i hi => by simp [ext, hi])]
  simp [ext]
theorem any_ext (s : ByteArray) (P S : Nat → ByteArray) (n : Nat) (p q : ByteArray) : anyFit s (ext P n p) (ext S n q) (n + 1) = (anyFit s P S n || fit s p q) := by
  simp only [anyFit]
  rw [any_congr s P S (ext P n p) (ext S n q) n (fun i hi => by simp [ext, hi]) (fun i hi => by simp [ext, hi])]
  simp [ext]
theorem isx_ext (K : Int) (ex : Bool) (s : ByteArray) (P S : Nat → ByteArray) (n : Nat) (p q : ByteArray) : isx K ex s (ext P n p) (ext S n q) (n + 1) = (isx K ex s P S n || (!(K == 0) && fit s p q)) := by
  unfold isx
  by_cases h : K = 0
  · simp [h]
  · have e : (K == 0) = false := by simpa using h
    simp [h, e, any_ext, Bool.or_assoc]
theorem MpO.map {B : Nat} {X : Nat → ByteArray} {k : Nat} {w : World} {mv : Value} (h : MpO B X k w mv) : ∃ m, mv = .map m := by
  rcases h with ⟨rfl, _⟩ | ⟨m, _, rfl, _⟩
  · exact ⟨_, rfl⟩
  · exact ⟨_, rfl⟩
/-- What is known of matchers: the map, the row of patterns. -/
def Mt (B : Nat) (X : Nat → ByteArray) (k : Nat) (P S : Nat → ByteArray) (n : Nat) (w : World) (mv pv : Value) : Prop := MpO B X k w mv ∧ w.ownsRow B 34 2 pv n (prs P S n)
theorem Mt.below {B : Nat} {X P S : Nat → ByteArray} {k n : Nat} {w w' : World} {mv pv : Value} (h : Mt B X k P S n w mv pv) (hb : Below w.heap.size w w') : Mt B X k P S n w' mv pv := ⟨h.1.below hb, owns_below h.2 hb⟩
/-- One more pattern put into the matchers in box b3. -/
theorem Mt.app {B B' b3 : Nat} {X P S : Nat → ByteArray} {k n : Nat} {W : World} {mv pv : Value} (h : Mt B X k P S n W mv pv) (hB : B ≤ W.heap.size) (h3 : W.heap[b3]? = some (.cells #[mv, pv] 30 (0, 0))) (hB' : B' ≤ B) (hB3 : B' ≤ b3) (p q : ByteArray) {sb c : Nat}
    (hs : W.heap[sb]? = some (.cells #[.string p, .string q] 34 (0, 0))) (hn : n ≤ 1048576) (ty : TypeId) :
    ∃ v' w', (Builtin.append_ #[28, 28] ty #[pv, .slice (some ⟨sb, 0, none⟩) 1 c]).run Tryf.prog W = .ok v' w' ∧ (∃ g c', v' = .slice (some ⟨g, 0, none⟩) (n + 1) c' ∧ W.heap.size ≤ w'.heap.size ∧ w'.cell? ⟨b3, 0, none⟩ = some mv ∧ w'.cell? ⟨b3, 1, none⟩ = some pv ∧ w'.frozen? ⟨b3, 1, none⟩ = false ∧ Hid (Mt B X k (ext P n p) (ext S n q) (n + 1) (w'.setCell ⟨b3, 1, none⟩ v') mv v' ∧ Below B' W (w'.setCell ⟨b3, 1, none⟩ v'))) := by
  obtain ⟨hm, ho⟩ := h
  obtain ⟨i, hi, hz, hsz, hb⟩ := wpInfo
  obtain ⟨v', w', hr, ho', hg, _⟩ := Am.app_many (P := Tryf.prog) W (ty := ty) Tryf.underlying28 hi hz hsz hb rfl (by omega) ho ⟨sb, 0, none⟩ 1 c [.string p, .string q] rfl (by
    intro q' u hq
    have e : (⟨sb, 0, none⟩ : Addr).add q' = ⟨sb, q', none⟩ := by unfold Addr.add; simp; try omega
    rw [e, cell_of_row W sb q' _ _ _ hs]
    rcases q' with _ | _ | q'
    · simpa using hq
    · simpa using hq
    · simp at hq) (by intro u hu; simp at hu; rcases hu with rfl | rfl <;> rfl) (by unfold maxLen; omega) (by omega) hB
  have hne : ∀ g, pv.ownBlock = some g → g ≠ b3 := fun g e hgb => by
    subst hgb
    rcases ho.2 with ⟨rfl, _⟩ | ⟨g', cap, cur, rfl, _, hb2, _⟩
    · cases e
    · simp [Value.ownBlock] at e
      subst e
      rw [h3] at hb2
      simp at hb2
  have h3' := (hg.block b3 (lt_of_blk h3) (fun e => hne b3 e.symm rfl)).trans h3
  rw [← prs_ext] at ho'
  refine ⟨v', w', hr, ?_⟩
  rcases id ho'.2 with ⟨rfl, e⟩ | ⟨g, cap, cur, rfl, hbase, hg2, _⟩
  · omega
  · have hgb : g ≠ b3 := fun e => by
      subst e
      rw [h3'] at hg2
      simp at hg2
    refine ⟨g, cap, rfl, hg.size, by rw [cell_of_row w' _ 0 _ _ _ h3']; rfl, by rw [cell_of_row w' _ 1 _ _ _ h3']; rfl, frozen_of_row w' _ 1 _ _ h3', Lib.hid ⟨⟨?_, ?_⟩, ?_⟩⟩
    · rcases hm with e | ⟨m, h1, h2, hM⟩
      · exact .inl e
      · refine .inr ⟨m, h1, h2, MapIs.setCell (hM.of_block (hg.block m hM.lt fun e => ?_)) (fun e => ?_) _⟩
        · obtain ⟨es, cl, hb', _⟩ := hM
          rcases ho.2 with ⟨rfl, _⟩ | ⟨g', cap, cur, rfl, _, hb2, _⟩
          · cases e
          · simp [Value.ownBlock] at e
            subst e
            rw [hb'] at hb2
            cases hb2
        · obtain ⟨es, cl, hb', _⟩ := hM
          simp at e
          subst e
          rw [hb'] at h3
          cases h3
    · exact Chg.owns (S := fun b => b = b3) (Chg.setCell (S := fun b => b = b3) (p := ⟨b3, 1, none⟩) (Chg.refl _ w') (.inl rfl) _) ho' (fun g' e => by simp [Value.ownBlock] at e; omega)
    · exact Below.setCell ((Chg.of_grown hg).below (B := B') (by omega) (fun i e => by have := (ho.lt i e).1; omega)) hB3 _
/-- While the lists are turned around. -/
def Rv (w2 : World) (n : Nat) (P S : Nat → ByteArray) (k : Nat) (wr : World) : Prop :=
  Below w2.heap.size w2 wr ∧ Fblk wr w2.heap.size 9 n (parV (fun i => .string (P (n - 1 - i))) (.string ⟨#[]⟩) k) ∧ Fblk wr (w2.heap.size + 1) 9 n (parV (fun i => .string (S (n - 1 - i))) (.string ⟨#[]⟩) k)
theorem Rv.start (w2 : World) (n : Nat) (P S : Nat → ByteArray) : Rv w2 n P S 0 ((w2.alloc (.cells (madeCells #[.string ⟨#[]⟩] n) 9)).alloc (.cells (madeCells #[.string ⟨#[]⟩] n) 9)) :=
  ⟨by (repeat' (first | exact Below.refl _ _ | refine Below.drewR ?_ | (refine Below.alloc ?_ (by simp; omega) _) | (refine Below.alloc ?_ (by simp) _) | (refine Below.setCell ?_ (by simp; omega) _) | (refine Below.setCell ?_ (by simp) _))), by rw [parV_zero]; exact (Fblk.made _ _ _ _).alloc _, by rw [parV_zero]; exact Fblk.madeAt (by simp)⟩
theorem Rv.step {w2 wr : World} {n : Nat} {P S : Nat → ByteArray} {k : Nat} (h : Rv w2 n P S k wr) : Rv w2 n P S (k + 1) ((wr.setCell ⟨w2.heap.size, k, none⟩ (.string (P (n - 1 - k)))).setCell ⟨w2.heap.size + 1, k, none⟩ (.string (S (n - 1 - k)))) := by
  obtain ⟨h1, h2, h3⟩ := h
  refine ⟨Below.setCell (Below.setCell h1 (by simp) _) (by simp) _, ?_, ?_⟩
  · rw [← parV_set]; exact (h2.set k _).other (by simp) _
  · rw [← parV_set]; exact (h3.other (by simp) _).set k _
theorem Rv.fin {w2 wr : World} {n : Nat} {P S : Nat → ByteArray} (h : Rv w2 n P S n wr) : Fsl wr (some ⟨w2.heap.size, 0, none⟩) n (fun i => .string (P (n - 1 - i))) ∧ Fsl wr (some ⟨w2.heap.size + 1, 0, none⟩) n (fun i => .string (S (n - 1 - i))) :=
  ⟨(h.2.1.congr fun i hi => by simp [parV, hi]).sl, (h.2.2.congr fun i hi => by simp [parV, hi]).sl⟩
theorem sInfo : (Tryf.prog.info? 9).map (fun i => (i.zero, i.size, i.bytes)) = some (some (.string ⟨#[]⟩), 1, 16) := by kernel_rfl
set_option maxHeartbeats 16000000 in
set_option maxRecDepth 100000 in
theorem main (a0 : Option Addr) (l0 c0 : Nat) (X : Nat → ByteArray) (a1 : Option Addr) (n1 c1 : Nat) (P : Nat → ByteArray) (a2 : Option Addr) (n2 c2 : Nat) (S : Nat → ByteArray) (p q s : ByteArray) (K : Int) (w : World) (h0 : Fsl w a0 l0 (fun j => .string (X j))) (m0 : ∀ j, j < l0 → (X j).size ≤ maxLen) (h1 : Fsl w a1 n1 (fun j => .string (P j))) (m1 : ∀ j, j < n1 → (P j).size ≤ maxLen) (h2 : Fsl w a2 n2 (fun j => .string (S j))) (m2 : ∀ j, j < n2 → (S j).size ≤ maxLen) (m3 : p.size ≤ maxLen) (m4 : q.size ≤ maxLen) (m5 : s.size ≤ maxLen) :
    Calls Tryf.prog 3 #[.slice a0 l0 c0, .slice a1 n1 c1, .slice a2 n2 c2, .string p, .string q, .string s, .int .u8 K] w fun e w' => e = .returned (.bool true) ∧ Below w.heap.size w w' := by
  have H0 := Lib.hid h0
  have H1 := Lib.hid h1
  have H2 := Lib.hid h2
  have HZ := Lib.hid (zb a0 l0 c0 X a1 n1 c1 P a2 n2 c2 S p q s K w h0 m0 h1 m1 h2 m2 m3 m4 m5)
  clear h0 h1 h2 m0 m1 m2 m3 m4 m5
  go_enter Tryf.func3, Tryf.ntmps3
  go_wp2_with fail
  refine HZ.out.mono ?_
  rintro e w1 ⟨rfl, v, rfl, HV⟩
  clear HZ
  cases v
  · go_wp2_with fail
    go_ret
    exact ⟨rfl, Below.refl _ _⟩
  obtain ⟨⟨k0, mm0⟩, ⟨k1, mm1⟩, ⟨k2, mm2⟩, m3, m4, m5⟩ := HV.out rfl
  have M0 := Lib.hid mm0
  have M1 := Lib.hid mm1
  have M2 := Lib.hid mm2
  clear mm0 mm1 mm2 HV
  go_wp2_with fail
  refine (gok a0 l0 c0 X a1 n1 c1 P a2 n2 c2 S s p q _ H0.out H1.out H2.out k0 k1 k2 M0.out M1.out M2.out m5 m3 m4).mono ?_
  rintro e w1 ⟨rfl, v, rfl⟩
  cases v
  · go_wp2_with fail
    go_ret
    exact ⟨rfl, Below.refl _ _⟩
  obtain ⟨n, hn⟩ : ∃ n, n = min n1 n2 := ⟨_, rfl⟩
  have HMN : Hid (∀ w, Calls Tryf.prog 8 #[.int .i64 (n1 : Int), .int .i64 (n2 : Int)] w fun e w' => e = .returned (.int .i64 (n : Int)) ∧ w' = w) := Lib.hid fun w => by rw [hn]; exact zmin n1 n2 w
  have HBD : Hid (∀ w', Below w1.heap.size w1 w' → Calls Tryf.prog 7 #[.slice a0 l0 c0, .slice a1 n1 c1, .slice a2 n2 c2] w' (BPo w' X l0 P S n)) := Lib.hid fun w' hb => by rw [hn]; exact bld a0 l0 c0 X a1 n1 c1 P a2 n2 c2 S w' (H0.out.below hb) (H1.out.below hb) (H2.out.below hb) k0 k1 k2 M0.out
  have hn1 : n ≤ n1 := by omega
  have hn2 : n ≤ n2 := by omega
  have MP : Hid (∀ i, i < n → (P i).size ≤ 1048576) := Lib.hid fun i hi => M1.out i (by omega)
  have MS : Hid (∀ i, i < n → (S i).size ≤ 1048576) := Lib.hid fun i hi => M2.out i (by omega)
  clear hn
  go_wp2_with fail
  refine (HBD.out _ (Below.refl _ _)).mono ?_
  rintro e w2 ⟨mv, pa, pc, rfl, hb, hm, ho⟩
  obtain ⟨m, rfl⟩ := MpO.map hm
  have B2 := Lib.hid hb
  have HT := Lib.hid (show Mt _ _ _ _ _ _ _ _ _ from ⟨hm, ho⟩)
  clear hb hm ho
  go_wp2_with fail
  refine (askX m pa n pc (exV X l0 s) s K P S _ (Mq.of HT.out.1 s) (Pt.of HT.out.2) (by omega) m5 MP.out MS.out).mono ?_
  rintro e w3 ⟨rfl, hb⟩
  have B3 : Hid (Below w1.heap.size w1 w3) := Lib.hid (B2.out.trans (hb.mono B2.out.size))
  clear hb B2 HT
  obtain ⟨g, hg⟩ : ∃ g, isx K (exV X l0 s) s P S n = g := ⟨_, rfl⟩
  rw [hg]
  have HG := Lib.hid hg
  clear hg
  go_wp2_with fail
  refine (HMN.out _).mono ?_
  rintro e w4 ⟨rfl, rfl⟩
  have hmk := run_make_one (P := Tryf.prog) Tryf.underlying22 sInfo rfl (by omega) n (by omega)
  have HR0 := Lib.hid (Rv.start w4 n P S)
  go_wp2_with fail
  go_loopw [20] (fun i wr => ∃ k : Nat, k ≤ n ∧ i = .int .i64 k ∧ Hid (Rv w4 n P S k wr)) (fun i _ => n - (intOf i).toNat)
  case atStart => exact ⟨0, Nat.zero_le _, rfl, HR0⟩
  case round =>
    obtain ⟨k, hk, rfl, HR⟩ := hrel
    by_cases hlt : k < n
    · obtain ⟨b1, o1, rfl, q1, x1⟩ := H1.out.at (n - 1 - k) (by omega)
      obtain ⟨b2, o2, rfl, q2, x2⟩ := H2.out.at (n - 1 - k) (by omega)
      have hs3 := B3.out.size
      have hs4 := HR.out.1.size
      have x1 := (HR.out.1.cell (p := ⟨b1, o1 + (n - 1 - k), none⟩) (by show b1 < _; omega)).trans ((B3.out.cell (p := ⟨b1, o1 + (n - 1 - k), none⟩) q1).trans x1)
      have x2 := (HR.out.1.cell (p := ⟨b2, o2 + (n - 1 - k), none⟩) (by show b2 < _; omega)).trans ((B3.out.cell (p := ⟨b2, o2 + (n - 1 - k), none⟩) q2).trans x2)
      have y1 := HR.out.2.1.cell k hlt
      have y2 := HR.out.2.2.cell k hlt
      have z1 := HR.out.2.1.frozen k
      have z2 := HR.out.2.2.frozen k
      have hb2 : b2 ≠ w4.heap.size := by omega
      have hk2 : (k : Int) < (n : Int) := by omega
      have ea : ((n : Int) - 1 - (k : Int)).toNat = n - 1 - k := by omega
      go_wp2_with fail
      go_roundw
      case rel => exact ⟨k + 1, by omega, by go_num, Lib.hid HR.out.step⟩
      case measure => simp [intOf]; omega
    · have hkn : k = n := by omega
      have hk2 : ¬ (k : Int) < (n : Int) := by omega
      have HF : Hid (Fsl wr (some ⟨w4.heap.size, 0, none⟩) n (fun i => .string (P (n - 1 - i))) ∧ Fsl wr (some ⟨w4.heap.size + 1, 0, none⟩) n (fun i => .string (S (n - 1 - i)))) := Lib.hid (Rv.fin (by have := HR.out; rw [hkn] at this; exact this))
      have B5 : Hid (Below w1.heap.size w1 wr) := Lib.hid (B3.out.trans (HR.out.1.mono B3.out.size))
      have HBR : Hid (Calls Tryf.prog 7 #[.slice a0 l0 c0, .slice (some ⟨w4.heap.size, 0, none⟩) n n, .slice (some ⟨w4.heap.size + 1, 0, none⟩) n n] wr (BPo wr X l0 (fun i => P (n - 1 - i)) (fun i => S (n - 1 - i)) n)) := Lib.hid (by
        have := bld a0 l0 c0 X (some ⟨w4.heap.size, 0, none⟩) n n (fun i => P (n - 1 - i)) (some ⟨w4.heap.size + 1, 0, none⟩) n n (fun i => S (n - 1 - i)) wr (H0.out.below B5.out) HF.out.1 HF.out.2 k0 (by omega) (by omega) M0.out
        rw [show min n n = n by omega] at this
        exact this)
      clear hkn
      go_wp2_with fail
      refine HBR.out.mono ?_
      clear HBR HF
      rintro e w5 ⟨mv, pa5, pc5, rfl, hb, hm, ho⟩
      obtain ⟨m5', rfl⟩ := MpO.map hm
      have B6 : Hid (Below w1.heap.size w1 w5) := Lib.hid (B5.out.trans (hb.mono B5.out.size))
      have HT := Lib.hid (show Mt _ _ _ _ _ _ _ _ _ from ⟨hm, ho⟩)
      clear hb hm ho
      have HC5 : Hid (∀ w', Mt (wr.heap.size + 2) X l0 (fun i => P (n - 1 - i)) (fun i => S (n - 1 - i)) n w' (.map m5') (.slice pa5 n pc5) → Calls Tryf.prog 6 #[.agg #[.map m5', .slice pa5 n pc5], .string s, .int .u8 K] w' (isP g w')) := Lib.hid fun w' ht => by
        have := askX m5' pa5 n pc5 (exV X l0 s) s K (fun i => P (n - 1 - i)) (fun i => S (n - 1 - i)) w' (Mq.of ht.1 s) (Pt.of ht.2) (by omega) m5 (fun i hi => MP.out _ (by omega)) (fun i hi => MS.out _ (by omega))
        rw [show isx K (exV X l0 s) s (fun i => P (n - 1 - i)) (fun i => S (n - 1 - i)) n = g by rw [← HG.out]; unfold isx; rw [any_rev s P S _ _ n (fun _ _ => rfl) (fun _ _ => rfl)]] at this
        exact this
      go_wp2_with fail
      refine (HC5.out _ HT.out).mono ?_
      rintro e w6 ⟨rfl, hb⟩
      have B7 : Hid (Below w1.heap.size w1 w6) := Lib.hid (B6.out.trans (hb.mono B6.out.size))
      clear hb HT HC5
      go_wp2_with fail
      refine (HBD.out _ B7.out).mono ?_
      rintro e w7 ⟨mv, pa7, pc7, rfl, hb, hm, ho⟩
      obtain ⟨m7, rfl⟩ := MpO.map hm
      have B8 : Hid (Below w1.heap.size w1 w7 ∧ w6.heap.size + 2 ≤ w7.heap.size + 2) := Lib.hid ⟨B7.out.trans (hb.mono B7.out.size), by have := hb.size; omega⟩
      have HT := Lib.hid (show Mt _ _ _ _ _ _ _ _ _ from ⟨hm, ho⟩)
      clear hb hm ho
      have HAP : Hid (∀ ty, ∃ v' w', (Builtin.append_ #[28, 28] ty #[.slice pa7 n pc7, .slice (some ⟨w7.heap.size + 1, 0, none⟩) 1 1]).run Tryf.prog ((w7.alloc (.cells #[.map m7, .slice pa7 n pc7] 30)).alloc (.cells #[.string p, .string q] 34)) = .ok v' w' ∧
          (∃ g c', v' = .slice (some ⟨g, 0, none⟩) (n + 1) c' ∧ w7.heap.size + 2 ≤ w'.heap.size ∧ w'.cell? ⟨w7.heap.size, 0, none⟩ = some (.map m7) ∧ w'.cell? ⟨w7.heap.size, 1, none⟩ = some (.slice pa7 n pc7) ∧ w'.frozen? ⟨w7.heap.size, 1, none⟩ = false ∧ Hid (Mt (w6.heap.size + 2) X l0 (ext P n p) (ext S n q) (n + 1) (w'.setCell ⟨w7.heap.size, 1, none⟩ v') (.map m7) v' ∧ Below w1.heap.size w1 (w'.setCell ⟨w7.heap.size, 1, none⟩ v')))) := Lib.hid fun ty => by
        have hbl : Below w7.heap.size w7 ((w7.alloc (.cells #[.map m7, .slice pa7 n pc7] 30)).alloc (.cells #[.string p, .string q] 34)) := by (repeat' (first | exact Below.refl _ _ | refine Below.drewR ?_ | (refine Below.alloc ?_ (by simp; omega) _) | (refine Below.alloc ?_ (by simp) _) | (refine Below.setCell ?_ (by simp; omega) _) | (refine Below.setCell ?_ (by simp) _)))
        have hz := B8.out.1.size
        have hz7 := B7.out.size
        have hs6 := B8.out.2
        obtain ⟨v', w', hr, g, c', e1, e2, e3, e4, e5, e6⟩ := Mt.app (B' := w1.heap.size) (b3 := w7.heap.size) (sb := w7.heap.size + 1) (c := 1) (HT.out.below hbl) (by simp; omega) (by rw [Below.heap_alloc _ _ _ (by simp)]; exact heap_alloc_new _ _) (by omega) hz p q (by have := heap_alloc_new (w7.alloc (.cells #[.map m7, .slice pa7 n pc7] 30)) (.cells #[.string p, .string q] 34); simpa using this) (by omega) ty
        exact ⟨v', w', hr, g, c', e1, by simpa using e2, e3, e4, e5, Lib.hid ⟨e6.out.1, (B8.out.1.trans (hbl.mono hz)).trans e6.out.2⟩⟩
      go_wp2_with (refine Am.wpList_app (o := ⟨some 101, _, _, _, _, _⟩) rfl (.tmp 96) (.tmp 100) #[28, 28] rfl rfl rfl (HAP.out _) ?_; rintro v' w8 ⟨gg, cc, rfl, r1, r2, r3, r4, HT8⟩)
      refine (askX m7 (some ⟨gg, 0, none⟩) (n + 1) cc (exV X l0 s) s K (ext P n p) (ext S n q) _ (Mq.of HT8.out.1.1 s) (Pt.of HT8.out.1.2) (by omega) m5 ?_ ?_).mono ?_
      · intro i hi
        by_cases hin : i < n
        · simpa [ext, hin] using MP.out i hin
        · simpa [ext, hin] using m3
      · intro i hi
        by_cases hin : i < n
        · simpa [ext, hin] using MS.out i hin
        · simpa [ext, hin] using m4
      rintro e w9 ⟨rfl, hb⟩
      have B9 : Hid (Below w1.heap.size w1 w9) := Lib.hid (HT8.out.2.trans (hb.mono HT8.out.2.size))
      clear hb HT HAP r1 r2 r3 r4
      obtain ⟨g3, hg3⟩ : ∃ g3, isx K (exV X l0 s) s (ext P n p) (ext S n q) (n + 1) = g3 := ⟨_, rfl⟩
      rw [hg3]
      rw [isx_ext, HG.out] at hg3
      by_cases hK : K = 0
      · have e1 : (K != 0) = false := by simpa using hK
        have e2 : (K == 0) = true := by simpa using hK
        have e3 : g3 = g := by rw [← hg3, e2]; simp
        subst e3
        clear hg3 hK
        cases g3
        · go_wp2_with fail
          go_ret
          exact ⟨rfl, B9.out⟩
        · go_wp2_with fail
          go_ret
          exact ⟨rfl, B9.out⟩
      · have e1 : (K != 0) = true := by simpa using hK
        have e2 : (K == 0) = false := by simpa using hK
        clear hK
        cases g
        · have e3 : g3 = fit s p q := by rw [← hg3, e2]; simp
          clear hg3
          have HS9 := Lib.hid (spl s p q w9 m5 m3 m4)
          rw [← e3] at HS9
          clear e3
          go_wp2_with fail
          refine HS9.out.mono ?_
          rintro e w10 ⟨rfl, nd, rfl⟩
          cases g3
          · go_wp2_with fail
            go_ret
            exact ⟨rfl, below_drewN B9.out nd⟩
          · go_wp2_with fail
            go_ret
            exact ⟨rfl, below_drewN B9.out nd⟩
        · have e3 : g3 = true := by rw [← hg3]; simp
          clear hg3
          subst e3
          go_wp2_with fail
          go_ret
          exact ⟨rfl, B9.out⟩
end Go.Proofs.YtngflfjgappgmaaFmt.Aux
