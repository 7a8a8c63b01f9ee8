/- Contracts of functions that the law of this seat reaches, and plain facts; no condition. -/
import Derived.Test.YtfoejbnbmmdmfaaProg
import Derived.WalkKit
import Derived.ProofKit
import Derived.OpenShut
import Derived.ShutString
import Derived.Test.YtfoejbnbmmdmfaaAid
import Derived.Test.YtfoejbnbmmdmfaaFl
import Derived.Test.YtfoejbnbmmdmfaaPb
import Derived.Test.YtfoejbnbmmdmfaaQd
import Derived.Test.YtfoejbnbmmdmfaaAm
import Derived.ArgAppend
import Derived.WalkSpells
import Derived.LoopTactic
import Derived.IntWalk
import Derived.Outline
import Derived.Deep.QuietTactic
import Derived.BigQuiet
import Derived.Deep.RegionHeld3
import Derived.Deep.RegionLaw
import Derived.StillTailTactics
import Derived.Test.YtfoejbnbmmdmfaaA
import Derived.Test.YtfoejbnbmmdmfaaB
import Derived.Deep.AppendLies
namespace Go.Proofs.Ytfoejbnbmmdmfaa.Aux
open Go.ChangeShapes Go.WideShapes Go.ChangeAt Go.RowKit
open Go.ChangeMaps (open_string shut_string)
set_option linter.unusedVariables false
open Fl Pb Qd Aux
theorem LocAt.rows {w : World} {lo : Nat} {kd : Int} {ex : Bool} {nd f b : Nat} (h : LocAt w lo kd ex nd f b) : ∃ d, w.cell? ⟨b, 0, none⟩ = some (.slice (some ⟨d, 0, none⟩) nd nd) ∧ w.cell? ⟨b, 1, none⟩ = some (.int .u8 kd) ∧ w.cell? ⟨b, 2, none⟩ = some (.bool ex) ∧ b < w.heap.size ∧
    ∀ k, k < nd → ∃ e, w.cell? ⟨d, k * 4, none⟩ = some (.iface 49 (.pointer (some ⟨e, 0, none⟩))) ∧ w.cell? ⟨e, 0, none⟩ = some (.int .u32 0) ∧ w.cell? ⟨e, 1, none⟩ = some (.int .u32 ((f : Int) + (k : Int))) ∧ d < w.heap.size ∧ e < w.heap.size := by
  obtain ⟨h0, d, V, h1, h2, h3, h4, h5⟩ := h
  refine ⟨d, by rw [cell_of_row w b 0 _ _ _ h2]; rfl, by rw [cell_of_row w b 1 _ _ _ h2]; rfl, by rw [cell_of_row w b 2 _ _ _ h2]; rfl, lt_of_blk h2, fun k hk => ?_⟩
  obtain ⟨e, a1, a2, a3⟩ := h5 k hk
  refine ⟨e, by rw [h3.cell _ (by omega), a2], by rw [cell_of_row w e 0 _ _ _ a3]; rfl, by rw [cell_of_row w e 1 _ _ _ a3]; simp, h3.lt, lt_of_blk a3⟩
set_option maxRecDepth 100000 in
theorem asL (b : Nat) (x kd : Int) (ex : Bool) (nd f lo : Nat) (w : World) (h : LocAt w lo kd ex nd f b) :
    Calls Try.prog 10 #[.agg #[.iface 43 (.pointer (some ⟨b, 0, none⟩)), .int .i32 x]] w fun e w' => e = .returned (.tuple #[.bool true, .int .u8 kd, .bool ex, .int .i64 nd]) ∧ Below w.heap.size w w' := by
  obtain ⟨d, c0, c1, c2, hb, _⟩ := LocAt.rows h
  have hta := ta43 ⟨b, 0, none⟩
  clear h
  go_enter Try.func10, Try.ntmps10
  go_wp2_with fail
  go_quiet (fail)
  go_wp2_with fail
  exact bodyPost_ret (v := .tuple #[.bool true, .int .u8 kd, .bool ex, .int .i64 nd]) (by simp [results, Try.results10, go_sem]) rfl ⟨rfl, below_drewN (Below.alloc (Below.refl _ _) (Nat.le_refl _) _) _⟩
set_option maxRecDepth 100000 in
theorem dRef (b : Nat) (x kd : Int) (ex : Bool) (nd f lo k : Nat) (w : World) (h : LocAt w lo kd ex nd f b) (hk : k < nd) :
    Calls Try.prog 11 #[.agg #[.iface 43 (.pointer (some ⟨b, 0, none⟩)), .int .i32 x], .int .i64 k] w fun e w' => e = .returned (.tuple #[.bool true, .int .u32 0, .int .u32 ((f : Int) + (k : Int))]) ∧ Below w.heap.size w w' := by
  obtain ⟨d, c0, c1, c2, hb, hr⟩ := LocAt.rows h
  obtain ⟨e, d0, e0, e1, hd, he⟩ := hr k hk
  have hta := ta43 ⟨b, 0, none⟩
  have htb := ta49 ⟨e, 0, none⟩
  have hk1 : (k : Int) < (nd : Int) := by omega
  have hk2 : ¬ (nd : Int) ≤ (k : Int) := by omega
  clear h hr
  go_enter Try.func11, Try.ntmps11
  go_wp2_with fail
  go_quiet (fail)
  go_wp2_with fail
  exact bodyPost_ret (v := .tuple #[.bool true, .int .u32 0, .int .u32 ((f : Int) + (k : Int))]) (by simp [results, Try.results11, go_sem]) rfl ⟨rfl, below_drewN (Below.alloc (Below.refl _ _) (Nat.le_refl _) _) _⟩
theorem mrg9 (n s : Nat) (K : Nat → Int) (E : Nat → Bool) (D : Nat → Nat) (V : Nat → Value) (w : World) (h : In n s K E D w V) (hn : n ≤ 65536) (hs : ∀ i, i ≤ n → nx K D i ≤ 65536) (hD : ∀ i, i < n → D i ≤ 255) :
    Calls Try.prog 9 #[.slice (some ⟨s, 0, none⟩) n n] w (MP w s) := by
  have HM := Lib.hid (mrg n s K E D V w h hn hs hD)
  clear h hs hD
  go_enter Try.func9, Try.ntmps9
  go_wp2_with fail
  refine HM.out.mono ?_
  rintro e w1 ⟨⟨l, c, rfl⟩, hc⟩
  have HC := Lib.hid hc
  clear hc HM
  go_wp2_with fail
  go_ret
  exact ⟨⟨l, c, rfl⟩, HC.out⟩
theorem setRow_other (w : World) (g j : Nat) (X : Array Value) (h : j ≠ g) : (w.setRow g X).heap[j]? = w.heap[j]? := by
  unfold World.setRow
  simp only [Array.getElem?_modify]
  rw [if_neg (fun e => h e.symm)]
theorem setRow_size (w : World) (g : Nat) (X : Array Value) : (w.setRow g X).heap.size = w.heap.size := by
  unfold World.setRow
  simp
/-- copy(orig, stmts). -/
theorem cop {w : World} {s o n : Nat} {V U : Nat → Value} (hs : Fblk w s 38 (n * 2) V) (h1 : OneV (n * 2) V) (ho : Fblk w o 38 (n * 2) U) (hso : s ≠ o) (ty : TypeId) :
    ∃ v' w', (Builtin.copy_ #[27, 27] ty #[.slice (some ⟨o, 0, none⟩) n n, .slice (some ⟨s, 0, none⟩) n n]).run Try.prog w = .ok v' w' ∧ (v' = .int .i64 n ∧ Hid (Fblk w' o 38 (n * 2) V ∧ Chg (fun b => b = o) w w')) := by
  have hr := Am.run_copy_all (P := Try.prog) w 27 27 ty 38 o n n 2 ⟨s, 0, none⟩ n _ 38 ((List.range (n * 2)).map V) Try.underlying27 (by have := sInfo; cases h : Try.prog.info? 38 with
    | none => rw [h] at this; cases this
    | some i => rw [h] at this; simp at this; simp [this]) ho (by simp) (by simp) (World.news_of_block (by simpa [Fblk] using hs)) (by
    intro u hu
    obtain ⟨j, hj, rfl⟩ := List.mem_map.1 hu
    exact h1 j (List.mem_range.1 hj))
  refine ⟨_, _, hr, rfl, Lib.hid ⟨?_, rfl, rfl, rfl, Nat.le_of_eq (setRow_size _ _ _).symm, fun k _ hk => setRow_other _ _ _ _ hk⟩⟩
  have := setRow_heap w o _ ((List.range (n * 2)).map V).toArray 38 _ ho
  exact this
/-- What stands while the law asks. -/
def St (w3 : World) (s o n : Nat) (K : Nat → Int) (E : Nat → Bool) (D : Nat → Nat) (V : Nat → Value) (W : World) : Prop :=
  Below w3.heap.size w3 W ∧ w3.heap.size ≤ s ∧ Fblk W o 38 (n * 2) V ∧ ∀ i, i < n → SAt W (s + 1) K E D i (V (i * 2)) ∧ ∃ x, V (i * 2 + 1) = .int .i32 x
theorem St.below {w3 W W' : World} {s o n : Nat} {K : Nat → Int} {E : Nat → Bool} {D : Nat → Nat} {V : Nat → Value} (h : St w3 s o n K E D V W) (hb : Below W.heap.size W W') : St w3 s o n K E D V W' := by
  obtain ⟨h1, h2, h3, h4⟩ := h
  exact ⟨h1.trans (hb.mono h1.size), h2, h3.below hb h3.lt, fun i hi => ⟨(h4 i hi).1.of_blocks fun k hk _ => hb.block k hk, (h4 i hi).2⟩⟩
theorem Cop.off {w w' : World} {a : Option Addr} {n : Nat} {t : TypeId} {V : Nat → Value} {e : Ending} (h : Cop w a n t V e w') : ∃ a' c', e = .returned (.slice a' n c') ∧ Fsl w' a' n V ∧ Below w.heap.size w w' := by
  obtain ⟨a', c', rfl, _, hf, hb, _, _⟩ := h
  exact ⟨a', c', rfl, hf, hb⟩
set_option maxHeartbeats 8000000 in
set_option maxRecDepth 100000 in
theorem main_ne (a0 : Option Addr) (n0 c0 : Nat) (K : Nat → Int) (a1 : Option Addr) (n1 c1 : Nat) (a2 : Option Addr) (n2 c2 : Nat) (D : Nat → Nat) (w : World)
    (h2 : Fsl w a2 n2 (fun i => .int .u8 (D i))) (hD : ∀ i, i < n2 → D i ≤ 255) (hne : ¬ (n1 = n0 ∧ n2 = n0)) :
    Calls Try.prog 3 #[.slice a0 n0 c0, .slice a1 n1 c1, .slice a2 n2 c2] w fun e w' => e = .returned (.bool true) ∧ Below w.heap.size w w' := by
  have HG := Lib.hid ((gd a0 n0 c0 a1 n1 c1 a2 n2 c2 (fun i => (D i : Int)) w h2 (fun i hi => ⟨by omega, by have := hD i hi; omega⟩)).mono (R' := fun e w' => w' = w ∧ e = .returned (.bool false)) fun e w' ⟨h1, v, h2, h3⟩ => ⟨h1, by
    cases v
    · exact h2
    · exact absurd (h3 rfl).2 (fun h => hne ⟨h.1, h.2.1⟩)⟩)
  clear h2 hD hne
  go_enter Try.func3, Try.ntmps3
  go_wp2_with fail
  refine (zb a0 n0 c0 a1 n1 c1 a2 n2 c2 _).mono ?_
  rintro e w1 ⟨rfl, v, rfl⟩
  cases v
  · go_wp2_with fail
    go_ret
    exact ⟨rfl, Below.refl _ _⟩
  go_wp2_with fail
  refine HG.out.mono ?_
  rintro e w1 ⟨rfl, rfl⟩
  go_wp2_with fail
  go_ret
  exact ⟨rfl, Below.refl _ _⟩
set_option maxHeartbeats 8000000 in
set_option maxRecDepth 100000 in
theorem main_eq (a0 : Option Addr) (n1 c0 : Nat) (K : Nat → Int) (a1 : Option Addr) (c1 : Nat) (E : Nat → Bool) (a2 : Option Addr) (c2 : Nat) (D : Nat → Nat) (w : World)
    (h0 : Fsl w a0 n1 (fun i => .int .u8 (K i))) (h1 : Fsl w a1 n1 (fun i => .bool (E i))) (h2 : Fsl w a2 n1 (fun i => .int .u8 (D i)))
    (hK : ∀ i, i < n1 → 0 ≤ K i ∧ K i ≤ 255) (hD : ∀ i, i < n1 → D i ≤ 255) :
    Calls Try.prog 3 #[.slice a0 n1 c0, .slice a1 n1 c1, .slice a2 n1 c2] w fun e w' => e = .returned (.bool true) ∧ Below w.heap.size w w' := by
  have H0 := Lib.hid h0
  have H1 := Lib.hid h1
  have H2 := Lib.hid h2
  have HK := Lib.hid hK
  have HD := Lib.hid hD
  clear h0 h1 h2 hK hD
  go_enter Try.func3, Try.ntmps3
  go_wp2_with fail
  refine (zb a0 n1 c0 a1 n1 c1 a2 n1 c2 _).mono ?_
  rintro e w1 ⟨rfl, v, rfl⟩
  cases v
  · go_wp2_with fail
    go_ret
    exact ⟨rfl, Below.refl _ _⟩
  go_wp2_with fail
  refine (gd a0 n1 c0 a1 n1 c1 a2 n1 c2 (fun i => (D i : Int)) _ H2.out (fun i hi => ⟨by omega, by have := HD.out i hi; omega⟩)).mono ?_
  rintro e w1 ⟨rfl, v, rfl, hv⟩
  cases v
  · clear hv
    go_wp2_with fail
    go_ret
    exact ⟨rfl, Below.refl _ _⟩
  obtain ⟨hn, _, _, hsum⟩ := hv rfl
  clear hv
  have HS : Hid (∀ i, i ≤ n1 → nx K D i ≤ 65536) := Lib.hid fun i hi => by
    have a := nx_le K D i
    have b := sum_mono (fun i => (D i : Int)) n1 (fun i hi => ⟨by omega, by have := HD.out i hi; omega⟩) (n1 - i) i (by omega)
    rw [show i + (n1 - i) = n1 by omega] at b
    omega
  clear hsum
  go_wp2_with fail
  refine (c8 a0 n1 c0 K _ H0.out (by omega)).mono ?_
  rintro e w2 hc
  obtain ⟨e0, d0, rfl, hf, hb⟩ := Cop.off hc
  have F2 := Lib.hid hf
  have B2 := Lib.hid hb
  clear hc hf hb
  go_wp2_with fail
  refine (cb a1 n1 c1 E _ (H1.out.below B2.out) (by omega)).mono ?_
  rintro e w3 hc
  obtain ⟨e1, d1, rfl, hf, hb⟩ := Cop.off hc
  have G3 := Lib.hid hf
  have F3 := Lib.hid (F2.out.below hb)
  have B3 := Lib.hid (B2.out.trans (hb.mono B2.out.size))
  clear hc hf hb
  go_wp2_with fail
  refine (c8 a2 n1 c2 (fun i => (D i : Int)) _ (H2.out.below B3.out) (by omega)).mono ?_
  rintro e w4 hc
  obtain ⟨e2, d2, rfl, hf, hb⟩ := Cop.off hc
  have D4 := Lib.hid hf
  have G4 := Lib.hid (G3.out.below hb)
  have F4 := Lib.hid (F3.out.below hb)
  have B4 := Lib.hid (B3.out.trans (hb.mono B3.out.size))
  clear hc hf hb F2 B2 F3 B3 G3
  go_wp2_with fail
  refine (bld e0 n1 d0 K e1 d1 E e2 d2 D _ F4.out G4.out D4.out HK.out HD.out hn HS.out).mono ?_
  rintro e w5 ⟨s, V, rfl, hI⟩
  have HI := Lib.hid hI
  clear hI
  obtain ⟨cs, hcs⟩ : ∃ cs, (Value.agg #[.nilIface, .int .i32 0]).cells = cs := ⟨_, rfl⟩
  have hmk := run_make_many (P := Try.prog) Try.underlying27 sInfo hcs (by omega) n1 (by omega)
  have hsl := HI.out.2.2.1.lt
  have HCP := Lib.hid (fun ty => cop (w := w5.alloc (.cells (madeCells cs (n1 * 2)) 38)) (s := s) (o := w5.heap.size) (n := n1) (V := V) (HI.out.2.2.1.alloc _) HI.out.2.2.2.1 (Fblk.madeManyAt rfl) (by omega) ty)
  have HCS := Lib.hid hcs
  clear hcs
  go_wp2_with (refine Am.wpList_cop (o := ⟨some 46, _, _, _, _, _⟩) rfl (.tmp 44) (.tmp 45) #[27, 27] rfl rfl rfl (HCP.out _) ?_; rintro v' w6 ⟨rfl, HC6⟩)
  have HIn : Hid (In n1 s K E D w6 V) := Lib.hid ⟨(HC6.out.2.block s (by simp; omega) (by omega)).trans (HI.out.2.2.1.alloc _), HI.out.2.2.2.1, fun i hi => ⟨(HI.out.2.2.2.2 i hi).1.of_blocks fun k hk _ => (HC6.out.2.block k (by simp; omega) (by omega)).trans (Below.heap_alloc _ _ _ hk), (HI.out.2.2.2.2 i hi).2⟩⟩
  refine (mrg9 n1 s K E D V _ HIn.out hn HS.out HD.out).mono ?_
  rintro e w7 ⟨⟨l, c, rfl⟩, hc7⟩
  have HST : Hid (St w4 s w5.heap.size n1 K E D V w7) := Lib.hid ⟨(((HI.out.1.alloc HI.out.1.size _).trans (HC6.out.2.below (B := w4.heap.size) (by simp; have := HI.out.1.size; omega) (fun i e => by have := HI.out.1.size; omega))).trans (hc7.below (B := w4.heap.size) (by have := HC6.out.2.size; simp at this; have := HI.out.1.size; omega) (fun i e => by have := HI.out.2.1; omega))), HI.out.2.1, (hc7.block w5.heap.size HC6.out.1.lt (by omega)).trans HC6.out.1, fun i hi => ⟨(HIn.out.2.2 i hi).1.of_blocks fun k hk hl => hc7.block k hk (by show ¬ k = s; omega), (HIn.out.2.2 i hi).2⟩⟩
  clear hc7 HC6 hmk HCP HI
  generalize w5.heap.size = o at HST ⊢
  go_wp2_with fail
  go_loopw [10, 11] (fun f i wr => ∃ k : Nat, k ≤ n1 ∧ i = .int .i64 k ∧ f = .int .u32 (nx K D k) ∧ Hid (St w4 s o n1 K E D V wr)) (fun _ i _ => n1 - (intOf i).toNat)
  case atStart => exact ⟨0, Nat.zero_le _, rfl, rfl, HST⟩
  case round =>
    obtain ⟨k, hk, rfl, rfl, HW⟩ := hrel
    by_cases hlt : k < n1
    · obtain ⟨b0, o0, rfl, l0, x0⟩ := F4.out.at k hlt
      obtain ⟨b1, o1, rfl, l1, x1⟩ := G4.out.at k hlt
      obtain ⟨b2, o2, rfl, l2, x2⟩ := D4.out.at k hlt
      have y0 := (HW.out.1.cell (p := ⟨b0, o0 + k, none⟩) l0).trans x0
      obtain ⟨k0, k1⟩ := HK.out k hlt
      have kd := HD.out k hlt
      have kn := HS.out k hk
      have kn1 := HS.out (k + 1) hlt
      have hk2 : (k : Int) < (n1 : Int) := by omega
      obtain ⟨hat, x, hx⟩ := HW.out.2.2.2 k hlt
      rcases hat with ⟨h8, b, hv⟩ | ⟨h8, b, hv, hloc⟩
      · have HN : Hid (nx K D (k + 1) = nx K D k) := Lib.hid (by simp only [nx]; rw [if_neg (by omega)])
        clear hv hx x0 x1 x2 kn1
        go_wp2_with fail
        go_roundw
        case rel => exact ⟨k + 1, by omega, by go_num, by rw [HN.out], HW⟩
        case measure => simp [intOf]; omega
      · have HN : Hid (nx K D (k + 1) = nx K D k + D k) := Lib.hid (by simp only [nx]; rw [if_pos h8])
        have hnd : nx K D k + D k ≤ 65536 := by rw [← HN.out]; exact kn1
        have h8'' : ¬ 8 ≤ K k := by omega
        have q0 := HW.out.2.2.1.cell (k * 2) (by omega)
        have q1 := HW.out.2.2.1.cell (k * 2 + 1) (by omega)
        rw [hv] at q0
        rw [hx] at q1
        have X0 := Lib.hid x0
        have X1 := Lib.hid x1
        have X2 := Lib.hid x2
        have HVX := Lib.hid (And.intro hv hx)
        have HL := Lib.hid hloc
        clear hv hx x0 x1 x2 kn1 hloc h8
        go_wp2_with fail
        refine (asL b x (K k) (E k) (D k) (nx K D k) (s + 1) _ HL.out).mono ?_
        rintro e w8 ⟨rfl, hb⟩
        have HW8 : Hid (St w4 s o n1 K E D V w8) := Lib.hid (HW.out.below hb)
        have y0 := (HW8.out.1.cell (p := ⟨b0, o0 + k, none⟩) l0).trans X0.out
        have y1 := (HW8.out.1.cell (p := ⟨b1, o1 + k, none⟩) l1).trans X1.out
        have y2 := (HW8.out.1.cell (p := ⟨b2, o2 + k, none⟩) l2).trans X2.out
        clear hb
        go_wp2_with fail
        go_loopw [16] (fun i wr => ∃ j : Nat, j ≤ D k ∧ i = .int .i64 j ∧ Hid (St w4 s o n1 K E D V wr)) (fun i _ => D k - (intOf i).toNat)
        case atStart => exact ⟨0, Nat.zero_le _, rfl, HW8⟩
        case round =>
          obtain ⟨j, hj, rfl, HW9⟩ := hrel
          by_cases hjl : j < D k
          · obtain ⟨hat, _⟩ := HW9.out.2.2.2 k hlt
            have HL9 : Hid (LocAt wr (s + 1) (K k) (E k) (D k) (nx K D k) b) := Lib.hid (by
              rcases hat with ⟨h8, _⟩ | ⟨_, b', hv', hl'⟩
              · omega
              · rw [HVX.out.1] at hv'
                simp at hv'
                subst hv'
                exact hl')
            have z0 := HW9.out.2.2.1.cell (k * 2) (by omega)
            have z1 := HW9.out.2.2.1.cell (k * 2 + 1) (by omega)
            rw [HVX.out.1] at z0
            rw [HVX.out.2] at z1
            have hj2 : (j : Int) < (D k : Int) := by omega
            clear hat
            go_wp2_with fail
            refine (dRef b x (K k) (E k) (D k) (nx K D k) (s + 1) j _ HL9.out hjl).mono ?_
            rintro e w9 ⟨rfl, hb⟩
            have HW10 : Hid (St w4 s o n1 K E D V w9) := Lib.hid (HW9.out.below hb)
            clear hb
            go_wp2_with fail
            go_roundw
            case rel => exact ⟨j + 1, by omega, by go_num, HW10⟩
            case measure => simp [intOf]; omega
          · have y2 := (HW9.out.1.cell (p := ⟨b2, o2 + k, none⟩) l2).trans X2.out
            have hj2 : ¬ (j : Int) < (D k : Int) := by omega
            go_wp2_with fail
            go_roundw
            case rel => exact ⟨k + 1, by omega, by go_num, by rw [HN.out]; go_num, HW9⟩
            case measure => simp [intOf]; omega
    · obtain rfl : k = n1 := by omega
      go_wp2_with fail
      go_ret
      exact ⟨rfl, B4.out.trans (HW.out.1.mono B4.out.size)⟩
theorem main (a0 : Option Addr) (n0 c0 : Nat) (K : Nat → Int) (a1 : Option Addr) (n1 c1 : Nat) (E : Nat → Bool) (a2 : Option Addr) (n2 c2 : Nat) (D : Nat → Nat) (w : World)
    (h0 : Fsl w a0 n0 (fun i => .int .u8 (K i))) (h1 : Fsl w a1 n1 (fun i => .bool (E i))) (h2 : Fsl w a2 n2 (fun i => .int .u8 (D i)))
    (hK : ∀ i, i < n0 → 0 ≤ K i ∧ K i ≤ 255) (hD : ∀ i, i < n2 → D i ≤ 255) :
    Calls Try.prog 3 #[.slice a0 n0 c0, .slice a1 n1 c1, .slice a2 n2 c2] w fun e w' => e = .returned (.bool true) ∧ Below w.heap.size w w' := by
  by_cases h : n1 = n0 ∧ n2 = n0
  · obtain ⟨rfl, rfl⟩ := h
    exact main_eq a0 _ c0 K a1 c1 E a2 c2 D w h0 h1 h2 hK hD
  · exact main_ne a0 n0 c0 K a1 n1 c1 a2 n2 c2 D w h2 hD h
end Go.Proofs.Ytfoejbnbmmdmfaa.Aux
