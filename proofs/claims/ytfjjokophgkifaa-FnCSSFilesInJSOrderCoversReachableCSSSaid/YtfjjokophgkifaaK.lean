/- Contracts of functions that the law of this seat reaches, and plain facts; no condition. -/
import Derived.Test.YtfjjokophgkifaaProg
import Derived.WalkKit
import Derived.ProofKit
import Derived.OpenShut
import Derived.ShutString
import Derived.Test.YtfjjokophgkifaaAid
import Derived.Test.YtfjjokophgkifaaFl
import Derived.Test.YtfjjokophgkifaaStr
import Derived.Test.YtfjjokophgkifaaPb
import Derived.Test.YtfjjokophgkifaaQd
import Derived.Test.YtfjjokophgkifaaAm
import Derived.Test.YtfjjokophgkifaaMp
import Derived.Test.YtfjjokophgkifaaJ
import Derived.Test.YtfjjokophgkifaaI
import Derived.Test.YtfjjokophgkifaaE
import Derived.Test.YtfjjokophgkifaaAid
import Derived.Maps.RangeRun
import Derived.Carry
import Derived.Laws.EntriesVeiled
import Derived.Laws.IdiomRangeMap
import Derived.ArgAppend
import Derived.Maps.Own
import Derived.WalkSmall
import Derived.WalkSpells
import Derived.Laws.Externs
import Derived.WalkLawsBesides
import Derived.LoopTactic
import Derived.Deep.CutBlock
import Derived.Deep.DeepCutAuto
import Derived.IntWalk
import Derived.Outline
import Derived.Deep.QuietTactic
import Derived.BigQuiet
import Derived.RegionTactic
import Derived.Deep.RegionHeld3
import Derived.Deep.RegionLaw
import Derived.Deep.MidRow
import Derived.StillTailTactics
import Derived.BigRegion
import Derived.Laws.OwnMore
import Derived.Laws.Rows
namespace Go.Proofs.Ytfjjokophgkifaa.Aux
open Go.ChangeShapes Go.WideShapes Go.ChangeAt Go.RowKit
open Go.ChangeMaps (open_string shut_string)
set_option linter.unusedVariables false
set_option linter.unusedSimpArgs false
open Fl Str Pb Qd Am Mp PlainAid Aux
open Go.ChangeMaps
/-- The chosen files' numbers, among the first i. -/
def sel (F : Nat → FD) (R : Nat → Bool) (i : Nat) : List Int := ((List.range i).filter R).filterMap (cssOf F)
theorem sel_zero (F : Nat → FD) (R : Nat → Bool) : sel F R 0 = [] := rfl
theorem sel_yes {F : Nat → FD} {R : Nat → Bool} {i : Nat} (h1 : R i = true) (h2 : (F i).has = true) : sel F R (i + 1) = sel F R i ++ [(F i).css] := by
  unfold sel
  rw [List.range_succ, List.filter_append, List.filterMap_append]
  simp [List.filter_cons, h1, List.filterMap_cons, cssOf, h2]
theorem sel_no1 {F : Nat → FD} {R : Nat → Bool} {i : Nat} (h1 : R i = false) : sel F R (i + 1) = sel F R i := by
  unfold sel
  rw [List.range_succ, List.filter_append, List.filterMap_append]
  simp [List.filter_cons, h1]
theorem sel_no2 {F : Nat → FD} {R : Nat → Bool} {i : Nat} (h2 : (F i).has = false) : sel F R (i + 1) = sel F R i := by
  unfold sel
  rw [List.range_succ, List.filter_append, List.filterMap_append]
  cases h1 : R i <;> simp [List.filter_cons, h1, List.filterMap_cons, cssOf, h2]
theorem sel_len (F : Nat → FD) (R : Nat → Bool) (i : Nat) : (sel F R i).length ≤ i := by
  unfold sel
  have h1 := List.length_filterMap_le (cssOf F) ((List.range i).filter R)
  have h2 := List.length_filter_le R (List.range i)
  rw [List.length_range] at h2
  omega
theorem rch_R {n : Nat} {F : Nat → FD} {f : Nat} {R : Nat → Bool} (h : RP n F f R []) (hf : f < n) (hvl : VL n F) {x : Nat} (hr : Rch F f x) : x < n ∧ R x = true := by
  induction hr with
  | refl => exact ⟨hf, h.s⟩
  | @step b c _ e ih =>
    obtain ⟨h1, h2⟩ := ih
    have hy : c < n := by
      obtain ⟨j, k, q1, q2, q3, q4⟩ := e
      have := (hvl _ h1).2 j q1 k q2 q3
      rw [q4] at this
      exact Int.ofNat_lt.1 this
    rcases h.c _ h1 h2 with q | q
    · cases q
    · exact ⟨hy, q _ e⟩
theorem rch_L {n : Nat} {F : Nat → FD} {f : Nat} {L : List Nat} (h : VS n F [] f L) {x : Nat} (hr : Rch F f x) : x ∈ L := by
  induction hr with
  | refl => rcases h.inn with q | q
            · cases q
            · exact q
  | step _ e ih =>
    rcases h.cl _ ih _ e with q | q
    · cases q
    · exact q
theorem got_perm {n : Nat} {F : Nat → FD} {f : Nat} {L : List Nat} {R : Nat → Bool} (h : VS n F [] f L) (hr : RP n F f R []) (hf : f < n) (hvl : VL n F) : (L.filterMap (cssOf F)).Perm (sel F R n) := by
  unfold sel
  refine List.Perm.filterMap _ ((List.perm_ext_iff_of_nodup h.nd (List.Pairwise.filter _ List.nodup_range)).2 fun x => ?_)
  rw [List.mem_filter, List.mem_range]
  constructor
  · intro hx
    exact rch_R hr hf hvl (h.rc x hx)
  · rintro ⟨h1, h2⟩
    exact rch_L h (hr.r x h1 h2)
/-- The map of counts. -/
def CM (w : World) (b : Nat) (c : Int → Int) : Prop := ∃ M, MapIs Try.prog 23 w b M ∧ ∀ v, U32 v → (M (.int .u32 v) = some (.int .i64 (c v)) ∨ (M (.int .u32 v) = none ∧ c v = 0))
theorem zint (w : World) : (zeroValue 3).run Try.prog w = .ok (.int .i64 0) w := by kernel_rfl
theorem CM.made (w : World) : CM (w.alloc (.map #[] 0)) w.heap.size (fun _ => 0) := ⟨noneM, MapIs.made _ _ _, fun v _ => .inr ⟨rfl, rfl⟩⟩
theorem CM.lt {w : World} {b : Nat} {c : Int → Int} (h : CM w b c) : b < w.heap.size := by
  obtain ⟨M, h1, _⟩ := h
  exact h1.lt
theorem CM.look {w : World} {b : Nat} {c : Int → Int} (h : CM w b c) {v : Int} (hv : U32 v) : (Instr.lookup 92 (.map (some b)) (.int .u32 v) false).run Try.prog w = .ok (.int .i64 (c v)) w := by
  obtain ⟨M, h1, h2⟩ := h
  rcases h2 v hv with q | ⟨q1, q2⟩
  · exact h1.look mk23 Try.underlying92 (key23 hv) q false
  · rw [q2]
    exact h1.look_no mk23 Try.underlying92 (key23 hv) q1 (zint w) false
theorem CM.congr {w : World} {b : Nat} {c c' : Int → Int} (h : CM w b c) (e : ∀ v, c v = c' v) : CM w b c' := by
  obtain ⟨M, h1, h2⟩ := h
  exact ⟨M, h1, fun v hv => by rw [← e v]; exact h2 v hv⟩
theorem CM.set {w : World} {b : Nat} {c : Int → Int} (h : CM w b c) {v : Int} (hv : U32 v) (z : Int) : ∃ w', (Instr.mapUpdate 92 (.map (some b)) (.int .u32 v) (.int .i64 z)).run Try.prog w = .ok () w' ∧ Hid (CM w' b (fun u => if u = v then z else c u) ∧ Below b w w') := by
  obtain ⟨M, h1, h2⟩ := h
  obtain ⟨o, hr, hm⟩ := h1.update mk23 Try.underlying92 (key23 hv) (.int .i64 z)
  refine ⟨_, hr, Lib.hid ⟨⟨_, hm, fun u hu => ?_⟩, setBlock_below (Below.refl _ _) (Nat.le_refl _) _⟩⟩
  by_cases e : u = v
  · subst e
    left
    rw [setM_same]
    simp
  · rw [setM_other _ _ _ _ (fun e2 => by injection e2 with _ e2; exact e e2)]
    rcases h2 u hu with q | ⟨q1, q2⟩
    · left; simpa [e] using q
    · right; exact ⟨q1, by simpa [e] using q2⟩
theorem CM.drew {w : World} {b : Nat} {c : Int → Int} (h : CM w b c) : CM w.drew b c := h
theorem cnt_add (l : List Int) (x : Int) (v : Int) : (((l ++ [x]).count v : Nat) : Int) = if v = x then ((l.count v : Nat) : Int) + 1 else ((l.count v : Nat) : Int) := by
  rw [List.count_append, List.count_singleton]
  by_cases e : v = x
  · subst e; simp
  · rw [if_neg e, if_neg (by simpa using fun h => e h.symm)]; simp
theorem last_of {n : Nat} {F : Nat → FD} {f : Nat} {L : List Nat} (h : VS n F [] f L) (hc : (F f).has = true) : ∃ G, L.filterMap (cssOf F) = G ++ [(F f).css] := by
  obtain ⟨L0, e⟩ := h.last List.not_mem_nil
  exact ⟨L0.filterMap (cssOf F), by rw [e, List.filterMap_append]; simp [List.filterMap_cons, cssOf, hc]⟩
theorem css_u32 {n : Nat} {F : Nat → FD} (hfw : FW n F) {L : List Nat} (hL : ∀ x ∈ L, x < n) : ∀ v ∈ L.filterMap (cssOf F), U32 v := by
  intro v hv
  obtain ⟨x, hx, e⟩ := List.mem_filterMap.1 hv
  unfold cssOf at e
  split at e
  · injection e with e
    subst e
    exact (hfw x (hL x hx)).1
  · cases e
def Okk (w : World) (e : Ending) (w' : World) : Prop := e = .returned (.bool true) ∧ Below w.heap.size w w'
theorem wpList_built {P : Program} {ops : Array Oper} {rest : List Oper} {o : Oper} {a : Act} {w : World} {Q : Exit → Act → World → Prop} (hg : o.guard = none) (t : TypeId) (parts : Array (Nat × Operand)) (ho : o.op = .build t parts) {vals : List (Nat × Value)} {cells : Array Value}
    (he : (parts.map fun (i, x) => (i, a.eval x)).toList = vals) (hf : P.built t vals = some cells) (h : wpList P ops Q rest (a.put o.dst (.agg cells)) w) : wpList P ops Q (o :: rest) a w := by
  subst he
  refine wpList_build hg t parts ho (by rw [hf]; rfl) ?_
  rw [hf]
  exact h
theorem builtO : ∃ C : Array Value, Try.prog.built 87 [] = some C := by
  have h : (Try.prog.built 87 []).isSome = true := by kernel_rfl
  exact Option.isSome_iff_exists.1 h
set_option maxRecDepth 100000 in
set_option maxHeartbeats 40000000 in
theorem main3 (a : Option Addr) (n cap : Nat) (F : Nat → FD) (x : Int) (w : World) (h : FilesIn w a n F) (hfw : FW n F) (hx : U32 x) : Calls Try.prog 3 #[.slice a n cap, .int .u32 x] w (Okk w) := by
  have HF := Lib.hid h
  have HFW := Lib.hid hfw
  have HX := Lib.hid hx
  clear h hfw hx
  obtain ⟨CO, hCO⟩ := builtO
  have hmm : ∀ w : World, (Instr.makeMap 92 none).run Try.prog w = .ok (.map (some w.heap.size)) (w.alloc (.map #[] 0)) := fun w => run_makeMap 92 w
  go_enter Try.func3, Try.ntmps3
  go_wp2_with fail
  refine (zz4 a n cap F x w HF.out).mono ?_
  rintro e w ⟨v, rfl, rfl, HV⟩
  cases v with
  | false =>
    go_wp2_with fail
    go_ret
    exact ⟨rfl, Below.refl _ _⟩
  | true =>
    have HFB := Lib.hid (HV.out rfl)
    have hn20 : n ≤ 1048576 := HFB.out.1
    clear HV
    go_wp2_with fail
    refine (bytes5 a n cap F w HF.out HFB.out).mono ?_
    rintro e w ⟨t, rfl, rfl⟩
    by_cases ht : (1048576 : Int) < t
    · go_wp2_with fail
      go_ret
      exact ⟨rfl, Below.refl _ _⟩
    · go_wp2_with fail
      refine (valid6 a n cap F x w HF.out HFB.out HFW.out HX.out).mono ?_
      rintro e w ⟨v, rfl, rfl, HV⟩
      cases v with
      | false =>
        go_wp2_with fail
        go_ret
        exact ⟨rfl, Below.refl _ _⟩
      | true =>
        obtain ⟨hxn, hvl⟩ := HV.out rfl
        obtain ⟨f, rfl⟩ := Int.eq_ofNat_of_zero_le HX.out.1
        have hf : f < n := by omega
        have HVL := Lib.hid hvl
        clear HV hvl
        go_wp2_with fail
        refine (clone7 a n cap F w HF.out HFB.out).mono ?_
        rintro e w1 ⟨a1, rfl, HF1, HB1⟩
        clear HF
        go_wp2_with fail
        refine (build9 a1 n n F w1 HF1.out HFB.out HFW.out (by omega)).mono ?_
        rintro e w2 ⟨lb, rfl, HLF2, HB2⟩
        have HB12 := Lib.hid (HB1.out.trans (HB2.out.mono HB1.out.size))
        have HF2 := Lib.hid (HF1.out.below HB2.out)
        clear HF1
        go_wp2_with (refine wpList_built rfl 87 #[] rfl (vals := []) (by first | rfl | simp) hCO ?_)
        refine (new8 (some ⟨lb, 0, none⟩) n n (some ⟨w2.heap.size, 0, none⟩) (w2.alloc (.cells CO 87))).mono ?_
        rintro e w3 ⟨cb, rfl, hc10, hb3⟩
        have HBO : Hid (Below w2.heap.size w2 (w2.alloc (.cells CO 87))) := Lib.hid ((Below.refl _ _).alloc (Nat.le_refl _) _)
        have HB23 := Lib.hid (HBO.out.trans (hb3.out.mono HBO.out.size))
        have HG : Hid (Gr w3 cb lb n F) := Lib.hid ⟨hc10.out, HLF2.out.below HB23.out⟩
        clear hc10 hb3 HBO hCO
        go_wp2_with fail
        refine (find10 cb lb n F f w3 HG.out HFB.out HFW.out HVL.out hf).mono ?_
        rintro e w4 ⟨ga, gc, L, rfl, hvs, HGO, HB4⟩
        have HB24 := Lib.hid (HB23.out.trans (HB4.out.mono HB23.out.size))
        have HF4 := Lib.hid (HF2.out.below HB24.out)
        clear HG HLF2 HF2
        go_wp2_with fail
        refine (reach11 a1 n n F f w4 HF4.out HFB.out HVL.out HFW.out hf).mono ?_
        rintro e w5 ⟨rb, R, rfl, hrp, HRB, HB5⟩
        have HGO5 := Lib.hid (owns_below HGO.out HB5.out)
        have HBall := Lib.hid ((HB12.out.trans (HB24.out.mono HB12.out.size)).trans (HB5.out.mono (Nat.le_trans HB12.out.size HB24.out.size)))
        obtain ⟨b, o, ha1, hb, hA⟩ := (HF4.out.below HB5.out).block (show 0 < n by omega)
        subst ha1
        have HA : Hid (∀ i, i < n → ∃ pa pc, At w5 b (o + i * 3) (fcell (F i) pa pc)) := Lib.hid fun i hi => by
          obtain ⟨pa, pc, q, _⟩ := hA i hi
          exact ⟨pa, pc, q⟩
        have HPM := Lib.hid (got_perm hvs hrp hf HVL.out)
        have HGU := Lib.hid (css_u32 HFW.out (fun x hx => (hvs.new x hx).2))
        have HLAST := Lib.hid (fun h => last_of hvs h)
        obtain ⟨G, hG⟩ : ∃ G, L.filterMap (cssOf F) = G := ⟨_, rfl⟩
        rw [hG] at HGO5 HPM HGU HLAST ⊢
        obtain ⟨N, hN⟩ : ∃ N, G.length = N := ⟨_, rfl⟩
        have hsl := sel_len F R n
        have hNs : (sel F R n).length = N := by rw [← HPM.out.length_eq]; exact hN
        have hN20 : N ≤ 1048576 := by omega
        rw [hN] at HGO5 ⊢
        have HN := Lib.hid hN
        have HNS := Lib.hid hNs
        clear HF4 HGO hA hvs hrp hG hN hNs hsl HB4 HB5 HB12 HB24 HB23
        have hrbl := HRB.out.1
        obtain ⟨mb, hmb⟩ : ∃ mb, mb = w5.heap.size := ⟨_, rfl⟩
        have HCM0 : Hid (CM (w5.alloc (.map #[] 0)) mb (fun v => (((sel F R 0).count v : Nat) : Int))) := Lib.hid (by rw [hmb]; exact (CM.made w5).congr (fun v => rfl))
        have HBL0 : Hid (Below mb w5 (w5.alloc (.map #[] 0))) := Lib.hid (by rw [hmb]; exact (Below.refl _ _).alloc (Nat.le_refl _) _)
        have hbm : b < mb := by rw [hmb]; exact hb
        have hrbm : rb < mb := by rw [hmb]; exact hrbl
        have HMBW : Hid (mb = w5.heap.size) := Lib.hid hmb
        go_wp2_with fail
        rw [← hmb]
        clear hmb
        go_loopw [9, 10] (fun s9 s10 wr => ∃ (i : Nat), i ≤ n ∧ s10 = .int .i64 i ∧ s9 = .int .i64 (((sel F R i).length : Nat) : Int) ∧ Hid (Below mb w5 wr ∧ CM wr mb (fun v => (((sel F R i).count v : Nat) : Int)))) (fun _ s10 _ => n - (intOf s10).toNat)
        case atStart => exact ⟨0, by omega, rfl, rfl, Lib.hid ⟨HBL0.out, HCM0.out⟩⟩
        case round =>
          clear HCM0 HBL0 hmm
          obtain ⟨i, hi, rfl, rfl, HI⟩ := hrel
          by_cases hlt : i < n
          · have hiz : (i : Int) < (n : Int) := by omega
            obtain ⟨pa, pc, hAt⟩ := HA.out i hlt
            have hAw := hAt.below hb (by rw [← HMBW.out]; exact HI.out.1)
            have c1 := hAw 1 _ rfl
            have c2 := hAw 2 _ rfl
            have r1 := cell_below (HRB.out.2 i hlt) HI.out.1 hrbm
            have hcu := (HFW.out i hlt).1
            have hsl := sel_len F R i
            obtain ⟨sl, hsl2⟩ : ∃ s, (sel F R i).length = s := ⟨_, rfl⟩
            rw [hsl2] at hsl ⊢
            have HSL := Lib.hid hsl2
            have hAt2 := Lib.hid hAt
            clear hAt hAw hsl2
            cases hR : R i with
            | false =>
              rw [hR] at r1
              have HS := Lib.hid (sel_no1 (F := F) hR)
              clear hR
              go_wp2_with fail
              go_roundw
              case rel => exact ⟨i + 1, by omega, by go_num, by rw [HS.out, HSL.out], Lib.hid (by rw [HS.out]; exact HI.out)⟩
              case measure => simp [intOf]; omega
            | true =>
              rw [hR] at r1
              have HR := Lib.hid hR
              clear hR
              cases hh : (F i).has with
              | false =>
                rw [hh] at c1
                have HS := Lib.hid (sel_no2 (R := R) hh)
                clear hh
                go_wp2_with fail
                go_roundw
                case rel => exact ⟨i + 1, by omega, by go_num, by rw [HS.out, HSL.out], Lib.hid (by rw [HS.out]; exact HI.out)⟩
                case measure => simp [intOf]; omega
              | true =>
                rw [hh] at c1
                have HS := Lib.hid (sel_yes HR.out hh)
                obtain ⟨css, hcss⟩ : ∃ c, (F i).css = c := ⟨_, rfl⟩
                rw [hcss] at c2 hcu HS
                have HCU := Lib.hid hcu
                obtain ⟨cN, hcN⟩ : ∃ c, (sel F R i).count css = c := ⟨_, rfl⟩
                have hcN20 : cN ≤ 1048576 := by have := List.count_le_length (a := css) (l := sel F R i); rw [hcN, HSL.out] at this; omega
                obtain ⟨WD, hWD⟩ : ∃ WD, wr.drew = WD := ⟨_, rfl⟩
                have HID : Hid (Below mb w5 WD ∧ CM WD mb (fun v => (((sel F R i).count v : Nat) : Int))) := Lib.hid (by rw [← hWD]; exact ⟨Qd.below_drew HI.out.1, HI.out.2.drew⟩)
                have c2D := cell_below (hAt2.out 2 _ rfl) HID.out.1 hbm
                rw [hcss] at c2D
                have hlk := HID.out.2.look hcu
                simp only [hcN] at hlk
                have HSET := HID.out.2.set hcu ((cN : Int) + 1)
                have HCN := Lib.hid hcN
                have hwr : IntKind.i64.wrap ((cN : Int) + 1) = (cN : Int) + 1 := IntWalk.i64_in _ (by omega)
                clear hh hcss hcN hcu
                go_wp2_with fail
                go_still_tail 14, (by kernel_rfl)
                change wpList _ _ _ _ _ wr.drew
                rw [hWD]
                refine wpList_mapSet (mv := .map (some mb)) (kv := .int .u32 css) (vv := .int .i64 ((cN : Int) + 1)) rfl _ _ _ 92 rfl rfl rfl rfl HSET ?_
                intro w7 hw7
                go_wp2_with fail
                go_roundw
                case rel => exact ⟨i + 1, by omega, by go_num, by rw [HS.out, List.length_append, HSL.out]; simp, Lib.hid ⟨HID.out.1.trans hw7.out.2, hw7.out.1.congr (fun v => by
                  rw [HS.out, cnt_add]
                  by_cases e : v = css
                  · subst e; simp [HCN.out]
                  · simp [e])⟩⟩
                case measure => simp [intOf]; omega
          · have hiz : ¬ (i : Int) < (n : Int) := by omega
            have hie : i = n := by omega
            rw [hie] at HI ⊢
            rw [HNS.out]
            have HI2 : Hid (Below mb w5 wr ∧ CM wr mb (fun v => (((sel F R n).count v : Nat) : Int) - (((G.take 0).count v : Nat) : Int))) := Lib.hid ⟨HI.out.1, HI.out.2.congr (fun v => by simp)⟩
            go_wp2_with fail
            go_loopw [11] (fun s11 wk => ∃ (k : Nat), k ≤ N ∧ s11 = .int .i64 k ∧ Hid (Below mb w5 wk ∧ CM wk mb (fun v => (((sel F R n).count v : Nat) : Int) - (((G.take k).count v : Nat) : Int)))) (fun s11 _ => N - (intOf s11).toNat)
            case atStart => exact ⟨0, by omega, rfl, HI2⟩
            case round =>
              clear HI HI2
              obtain ⟨k, hk, rfl, HK⟩ := hrel
              by_cases hkl : k < N
              · have hkz : (k : Int) < (N : Int) := by omega
                have hk0 : (0 : Int) ≤ (k : Int) := by omega
                obtain ⟨gb, hga, hgbl, _⟩ := own_some HGO5.out (by omega)
                subst hga
                have hkG : k < G.length := by rw [HN.out]; exact hkl
                obtain ⟨x, hx⟩ : ∃ x, G[k]? = some x := ⟨_, List.getElem?_eq_getElem hkG⟩
                have hcell : w5.cell? ⟨gb, k, none⟩ = some (.int .u32 x) := by
                  have := HGO5.out.cells (g := gb) rfl k (.int .u32 x) (by simp [hx])
                  have e : ∀ m : Nat, (⟨gb, 0, none⟩ : Addr).add m = ⟨gb, m, none⟩ := fun m => by unfold Addr.add; simp; try omega
                  rwa [e k] at this
                have hux := HGU.out x (List.mem_of_getElem? hx)
                obtain ⟨cv, hcv⟩ : ∃ c : Int, (((sel F R n).count x : Nat) : Int) - (((G.take k).count x : Nat) : Int) = c := ⟨_, rfl⟩
                have hcb : -1048576 ≤ cv ∧ cv ≤ 1048576 := by
                  have h1 := List.count_le_length (a := x) (l := sel F R n)
                  have h2 := List.count_le_length (a := x) (l := G.take k)
                  rw [HNS.out] at h1
                  rw [List.length_take] at h2
                  omega
                obtain ⟨WD, hWD⟩ : ∃ WD, wr.drew = WD := ⟨_, rfl⟩
                have HID : Hid (Below mb w5 WD ∧ CM WD mb (fun v => (((sel F R n).count v : Nat) : Int) - (((G.take k).count v : Nat) : Int))) := Lib.hid (by rw [← hWD]; exact ⟨Qd.below_drew HK.out.1, HK.out.2.drew⟩)
                have hgbm : gb < mb := by rw [HMBW.out]; exact hgbl
                have c2 := cell_below hcell HK.out.1 hgbm
                have c2D := cell_below hcell HID.out.1 hgbm
                have hlk := HID.out.2.look hux
                simp only [hcv] at hlk
                have HSET := HID.out.2.set hux (cv - 1)
                have HCV := Lib.hid hcv
                have HXK := Lib.hid hx
                have hwr : IntKind.i64.wrap (cv - 1) = cv - 1 := IntWalk.i64_in _ (by omega)
                clear hcell hcv hx hkG
                go_wp2_with fail
                go_still_tail 12, (by kernel_rfl)
                change wpList _ _ _ _ _ wr.drew
                rw [hWD]
                refine wpList_mapSet (mv := .map (some mb)) (kv := .int .u32 x) (vv := .int .i64 (cv - 1)) rfl _ _ _ 92 rfl rfl rfl rfl HSET ?_
                intro w7 hw7
                go_wp2_with fail
                go_roundw
                case rel => exact ⟨k + 1, by omega, by go_num, Lib.hid ⟨HID.out.1.trans hw7.out.2, hw7.out.1.congr (fun v => by
                  rw [List.take_add_one, HXK.out, show (some x).toList = [x] from rfl, cnt_add]
                  have := HCV.out
                  by_cases e : v = x
                  · subst e; simp only [if_pos]; omega
                  · simp only [if_neg e])⟩⟩
                case measure => simp [intOf]; omega
              · have hkz : ¬ (k : Int) < (N : Int) := by omega
                have hke : k = N := by omega
                have HZ : Hid (Below mb w5 wr ∧ CM wr mb (fun _ => 0)) := Lib.hid ⟨HK.out.1, HK.out.2.congr (fun v => by
                  rw [hke, List.take_of_length_le (by rw [HN.out]; exact Nat.le_refl _), HPM.out.count_eq v]
                  omega)⟩
                go_wp2_with fail
                go_loopw [12] (fun s12 wk => ∃ (k : Nat), k ≤ N ∧ s12 = .int .i64 k ∧ Hid (Below mb w5 wk ∧ CM wk mb (fun _ => 0))) (fun s12 _ => N - (intOf s12).toNat)
                case atStart => exact ⟨0, by omega, rfl, HZ⟩
                case round =>
                  clear HK HZ hke hkz
                  obtain ⟨k, hk, rfl, HK⟩ := hrel
                  by_cases hkl : k < N
                  · have hkz : (k : Int) < (N : Int) := by omega
                    have hk0 : (0 : Int) ≤ (k : Int) := by omega
                    obtain ⟨gb, hga, hgbl, _⟩ := own_some HGO5.out (by omega)
                    subst hga
                    have hkG : k < G.length := by rw [HN.out]; exact hkl
                    obtain ⟨x, hx⟩ : ∃ x, G[k]? = some x := ⟨_, List.getElem?_eq_getElem hkG⟩
                    have hcell : w5.cell? ⟨gb, k, none⟩ = some (.int .u32 x) := by
                      have := HGO5.out.cells (g := gb) rfl k (.int .u32 x) (by simp [hx])
                      have e : ∀ m : Nat, (⟨gb, 0, none⟩ : Addr).add m = ⟨gb, m, none⟩ := fun m => by unfold Addr.add; simp; try omega
                      rwa [e k] at this
                    have hux := HGU.out x (List.mem_of_getElem? hx)
                    have hgbm : gb < mb := by rw [HMBW.out]; exact hgbl
                    have c2 := cell_below hcell HK.out.1 hgbm
                    have hlk := HK.out.2.look hux
                    clear hcell hx hkG
                    go_wp2_with fail
                    go_roundw
                    case rel => exact ⟨k + 1, by omega, by go_num, HK⟩
                    case measure => simp [intOf]; omega
                  · have hkz : ¬ (k : Int) < (N : Int) := by omega
                    go_wp2_with fail
                    go_loopw [13] (fun s13 wk => ∃ (k : Nat), k ≤ n ∧ s13 = .int .i64 k ∧ Hid (Below mb w5 wk ∧ CM wk mb (fun _ => 0))) (fun s13 _ => n - (intOf s13).toNat)
                    case atStart => exact ⟨0, by omega, rfl, HK⟩
                    case round =>
                      clear HK hkz
                      obtain ⟨i, hi, rfl, HK⟩ := hrel
                      by_cases hlt : i < n
                      · have hiz : (i : Int) < (n : Int) := by omega
                        obtain ⟨pa, pc, hAt⟩ := HA.out i hlt
                        have hAw := hAt.below hb (by rw [← HMBW.out]; exact HK.out.1)
                        have c1 := hAw 1 _ rfl
                        have c2 := hAw 2 _ rfl
                        have r1 := cell_below (HRB.out.2 i hlt) HK.out.1 hrbm
                        have hlk := HK.out.2.look (HFW.out i hlt).1
                        clear hAt hAw
                        cases hR : R i with
                        | false =>
                          rw [hR] at r1
                          clear hR
                          go_wp2_with fail
                          go_roundw
                          case rel => exact ⟨i + 1, by omega, by go_num, HK⟩
                          case measure => simp [intOf]; omega
                        | true =>
                          rw [hR] at r1
                          clear hR
                          cases hh : (F i).has with
                          | false =>
                            rw [hh] at c1
                            clear hh
                            go_wp2_with fail
                            go_roundw
                            case rel => exact ⟨i + 1, by omega, by go_num, HK⟩
                            case measure => simp [intOf]; omega
                          | true =>
                            rw [hh] at c1
                            clear hh
                            go_wp2_with fail
                            go_roundw
                            case rel => exact ⟨i + 1, by omega, by go_num, HK⟩
                            case measure => simp [intOf]; omega
                      · have hiz : ¬ (i : Int) < (n : Int) := by omega
                        have hfz : (f : Int) < (n : Int) := by omega
                        have hf0 : (0 : Int) ≤ (f : Int) := by omega
                        obtain ⟨pa, pc, hAt⟩ := HA.out f hf
                        have hAw := hAt.below hb (by rw [← HMBW.out]; exact HK.out.1)
                        have c1 := hAw 1 _ rfl
                        have c2 := hAw 2 _ rfl
                        have HEND := Lib.hid (HBall.out.trans ((show Below w5.heap.size w5 wr by rw [← HMBW.out]; exact HK.out.1).mono HBall.out.size))
                        clear hAt hAw
                        cases hh : (F f).has with
                        | false =>
                          rw [hh] at c1
                          clear hh
                          go_wp2_with fail
                          go_ret
                          exact ⟨rfl, HEND.out⟩
                        | true =>
                          rw [hh] at c1
                          obtain ⟨G0, hG0⟩ := HLAST.out hh
                          have hN1 : N = G0.length + 1 := by rw [← HN.out, hG0]; simp
                          obtain ⟨m, hm⟩ : ∃ m, G0.length = m := ⟨_, rfl⟩
                          rw [hm] at hN1
                          obtain ⟨gb, hga, hgbl, _⟩ := own_some HGO5.out (by omega)
                          subst hga
                          have hcell : w5.cell? ⟨gb, m, none⟩ = some (.int .u32 (F f).css) := by
                            have := HGO5.out.cells (g := gb) rfl m (.int .u32 (F f).css) (by rw [hG0]; simp [← hm])
                            have e : ∀ m : Nat, (⟨gb, 0, none⟩ : Addr).add m = ⟨gb, m, none⟩ := fun m => by unfold Addr.add; simp; try omega
                            rwa [e m] at this
                          have hgbm : gb < mb := by rw [HMBW.out]; exact hgbl
                          have c5 := cell_below hcell HK.out.1 hgbm
                          clear hcell hh hG0 hm
                          rw [hN1]
                          go_wp2_with fail
                          go_quiet (fail)
                          go_wp2_with fail
                          go_ret
                          exact ⟨by simp, Qd.below_drewN HEND.out _⟩
end Go.Proofs.Ytfjjokophgkifaa.Aux
