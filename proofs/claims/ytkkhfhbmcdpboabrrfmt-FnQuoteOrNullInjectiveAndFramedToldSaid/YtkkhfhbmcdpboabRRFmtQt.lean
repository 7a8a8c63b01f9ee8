/-
  The quoted text of a string of bytes (%q) tells the string: it is injective, longer by two at least, and stands between two quotes; no condition.
-/
import Derived.Stop.FmtQuoteTie
import Derived.Lib.MapLaws
import Derived.Lib.TrimUEq
namespace Go.Proofs.Qt
open Go.Extern.FmtText
open Go.Lib (decodeL decodeL_drop encodeRune encode_decode decodeL_le decodeL_width)
set_option linter.unusedVariables false

theorem enc_rune (r : Nat) : (Utf8.encode (r : Int)).data.toList = encodeRune (r : Int) := by
  have h := encode_eq r
  unfold encodeRune
  rw [← h]
  unfold nums
  rw [List.map_map]
  conv => lhs; rw [← List.map_id (Utf8.encode (r : Int)).data.toList]
  apply List.map_congr_left
  intro x _
  simp
/-- What one unit of the text becomes. -/
def piece (l : List UInt8) : List UInt8 :=
  if (decodeL l).2 = 1 ∧ (decodeL l).1 = 65533 then 92 :: 120 :: hexDigits (l.headD 0).toNat 2 else escRune 34 false (decodeL l).1
def Q : Nat → List UInt8 → List UInt8
  | 0, _ => []
  | n + 1, l => if l = [] then [] else piece l ++ Q n (l.drop (decodeL l).2)
theorem get_head (s : ByteArray) (pos : Nat) (h : pos < s.size) : s.get! pos = (s.data.toList.drop pos).headD 0 := by
  have h' : pos < s.data.toList.length := h
  rw [List.drop_eq_getElem_cons h']
  have : s.get! pos = s[pos]'h := by
    simp [ByteArray.get!, getElem!_pos, h]
    rfl
  rw [this]
  rfl
theorem from_eq (s : ByteArray) : ∀ n pos, quoteFrom 34 false s n pos = Q n (s.data.toList.drop pos)
  | 0, _ => rfl
  | n + 1, pos => by
    unfold quoteFrom Q
    by_cases h : pos < s.size
    · have hne : s.data.toList.drop pos ≠ [] := by
        intro e
        have := congrArg List.length e
        have h2 : s.data.toList.length = s.size := rfl
        rw [List.length_drop, h2, List.length_nil] at this
        omega
      rw [if_pos h, if_neg hne, from_eq s n, List.drop_drop]
      unfold piece
      rw [decodeL_drop, get_head s pos h]
      congr 1
      by_cases c : (Utf8.decode s pos).2 = 1 ∧ (Utf8.decode s pos).1 = 65533
      · have c' : ((Utf8.decode s pos).2 == 1 && (Utf8.decode s pos).1 == 65533) = true := by simpa using c
        rw [if_pos c, if_pos c']
      · have c' : ¬ ((Utf8.decode s pos).2 == 1 && (Utf8.decode s pos).1 == 65533) = true := by simpa using c
        rw [if_neg c, if_neg c']
    · have he : s.data.toList.drop pos = [] := List.drop_eq_nil_of_le (by show s.size ≤ pos; omega)
      rw [if_neg h, if_pos he]
theorem quote_Q (b : List UInt8) : quote false b = 34 :: (Q b.length b ++ [34]) := by
  unfold quote
  rw [from_eq]
  rfl

/-- How long the piece at the head is. -/
def clen : List UInt8 → Nat
  | 92 :: c :: _ => if c = 120 then 4 else if c = 117 then 6 else if c = 85 then 10 else 2
  | b :: _ => if b.toNat < 128 then 1 else if b.toNat < 224 then 2 else if b.toNat < 240 then 3 else 4
  | [] => 0
def dv (c : UInt8) : Nat := if c.toNat < 58 then c.toNat - 48 else c.toNat - 87
def hv (l : List UInt8) : Nat := l.foldl (fun a c => 16 * a + dv c) 0
/-- The unit that a piece stands for. -/
def val : List UInt8 → List UInt8
  | 92 :: c :: h =>
    if c = 120 then [UInt8.ofNat (hv h)] else if c = 117 then encodeRune (hv h : Nat) else if c = 85 then encodeRune (hv h : Nat)
    else if c = 97 then [7] else if c = 98 then [8] else if c = 102 then [12] else if c = 110 then [10] else if c = 114 then [13] else if c = 116 then [9] else if c = 118 then [11] else [c]
  | l => l
theorem dv_digit (d : Nat) (h : d < 16) : dv (digit false d) = d := by
  unfold dv digit
  by_cases e : d < 10
  · have h1 : (UInt8.ofNat (48 + d)).toNat = 48 + d := by rw [UInt8.toNat_ofNat']; omega
    simp only [if_pos e, h1]
    rw [if_pos (by omega)]
    omega
  · have h1 : (UInt8.ofNat (87 + d)).toNat = 87 + d := by rw [UInt8.toNat_ofNat']; omega
    simp only [if_neg e, Bool.false_eq_true, if_false, h1]
    rw [if_neg (by omega)]
    omega
theorem hv_two (r : Nat) (h : r < 256) : hv (hexDigits r 2) = r := by
  simp only [hexDigits, hv, List.foldl_cons, List.foldl_nil]
  rw [dv_digit _ (by omega), dv_digit _ (by omega)]
  simp only [Nat.pow_one, Nat.pow_zero, Nat.div_one]
  omega
theorem hv_four (r : Nat) (h : r < 65536) : hv (hexDigits r 4) = r := by
  simp only [hexDigits, hv, List.foldl_cons, List.foldl_nil]
  rw [dv_digit _ (by omega), dv_digit _ (by omega), dv_digit _ (by omega), dv_digit _ (by omega)]
  simp only [Nat.pow_one, Nat.pow_zero, Nat.div_one, show (16 : Nat) ^ 2 = 256 from rfl, show (16 : Nat) ^ 3 = 4096 from rfl]
  omega
theorem hv_eight (r : Nat) (h : r < 4294967296) : hv (hexDigits r 8) = r := by
  simp only [hexDigits, hv, List.foldl_cons, List.foldl_nil]
  rw [dv_digit _ (by omega), dv_digit _ (by omega), dv_digit _ (by omega), dv_digit _ (by omega), dv_digit _ (by omega), dv_digit _ (by omega), dv_digit _ (by omega), dv_digit _ (by omega)]
  simp only [Nat.pow_one, Nat.pow_zero, Nat.div_one, show (16 : Nat) ^ 2 = 256 from rfl, show (16 : Nat) ^ 3 = 4096 from rfl, show (16 : Nat) ^ 4 = 65536 from rfl, show (16 : Nat) ^ 5 = 1048576 from rfl, show (16 : Nat) ^ 6 = 16777216 from rfl, show (16 : Nat) ^ 7 = 268435456 from rfl]
  omega
theorem hex_len (r n : Nat) : (hexDigits r n).length = n := by
  induction n with
  | zero => rfl
  | succ n ih => simp [hexDigits, ih]
/-- What is asked of a piece p for the unit u. -/
def Fits (p u : List UInt8) : Prop := (∀ rest, clen (p ++ rest) = p.length) ∧ val p = u ∧ u.length ≤ p.length ∧ ∃ a t, p = a :: t ∧ a ≠ 34
theorem enc_small (r : Nat) (h : r < 128) : encodeRune (r : Int) = [UInt8.ofNat r] := by
  rw [← enc_rune, enc1 r h]
theorem enc_le (r : Nat) : (encodeRune (r : Int)).length ≤ 4 := by
  rw [← enc_rune]
  by_cases c1 : r < 128
  · rw [enc1 r c1]; simp
  by_cases c2 : r < 2048
  · rw [enc2 r c1 c2]; simp
  by_cases hb : (55296 ≤ r ∧ r ≤ 57343) ∨ 1114111 < r
  · rw [encBad r hb]; simp
  by_cases c3 : r < 65536
  · rw [enc3 r c2 c3 (by omega)]; simp
  · rw [enc4 r c3 (by omega)]; simp
theorem clen_ne (b : UInt8) (t : List UInt8) (h : b ≠ 92) : clen (b :: t) = if b.toNat < 128 then 1 else if b.toNat < 224 then 2 else if b.toNat < 240 then 3 else 4 := by
  unfold clen
  split
  · rename_i h2
    injection h2 with h2 _
    exact absurd h2 h
  · rename_i h2
    injection h2 with h2 h3
    subst h2
    rfl
  · rename_i h2; cases h2
theorem val_ne (b : UInt8) (t : List UInt8) (h : b ≠ 92) : val (b :: t) = b :: t := by
  unfold val
  split
  · rename_i h2
    injection h2 with h2 _
    exact absurd h2 h
  · rfl
theorem u8_ne (n m : Nat) (hn : n < 256) (hm : m < 256) (h : n ≠ m) : UInt8.ofNat n ≠ UInt8.ofNat m := fun e => by
  have := congrArg UInt8.toNat e
  rw [UInt8.toNat_ofNat', UInt8.toNat_ofNat'] at this
  omega
theorem u8_to (n : Nat) (hn : n < 256) : (UInt8.ofNat n).toNat = n := by rw [UInt8.toNat_ofNat']; omega
theorem fits_enc (r : Nat) (h1 : r ≠ 34) (h2 : r ≠ 92) : Fits (encodeRune (r : Int)) (encodeRune (r : Int)) := by
  unfold Fits
  rw [← enc_rune]
  by_cases c1 : r < 128
  · rw [enc1 r c1]
    have a : UInt8.ofNat r ≠ 92 := u8_ne r 92 (by omega) (by omega) h2
    have b : UInt8.ofNat r ≠ 34 := u8_ne r 34 (by omega) (by omega) h1
    refine ⟨fun rest => ?_, val_ne _ _ a, Nat.le_refl _, _, _, rfl, b⟩
    rw [List.cons_append, clen_ne _ _ a, u8_to r (by omega), if_pos c1]
    rfl
  by_cases c2 : r < 2048
  · rw [enc2 r c1 c2]
    have a : UInt8.ofNat (192 + r / 64) ≠ 92 := u8_ne _ 92 (by omega) (by omega) (by omega)
    have b : UInt8.ofNat (192 + r / 64) ≠ 34 := u8_ne _ 34 (by omega) (by omega) (by omega)
    refine ⟨fun rest => ?_, val_ne _ _ a, Nat.le_refl _, _, _, rfl, b⟩
    rw [List.cons_append, clen_ne _ _ a, u8_to _ (by omega), if_neg (by omega), if_pos (by omega)]
    rfl
  by_cases hb : (55296 ≤ r ∧ r ≤ 57343) ∨ 1114111 < r
  · rw [encBad r hb]
    exact ⟨fun rest => rfl, rfl, Nat.le_refl _, _, _, rfl, by decide⟩
  by_cases c3 : r < 65536
  · rw [enc3 r c2 c3 (by omega)]
    have a : UInt8.ofNat (224 + r / 4096) ≠ 92 := u8_ne _ 92 (by omega) (by omega) (by omega)
    have b : UInt8.ofNat (224 + r / 4096) ≠ 34 := u8_ne _ 34 (by omega) (by omega) (by omega)
    refine ⟨fun rest => ?_, val_ne _ _ a, Nat.le_refl _, _, _, rfl, b⟩
    rw [List.cons_append, clen_ne _ _ a, u8_to _ (by omega), if_neg (by omega), if_neg (by omega), if_pos (by omega)]
    rfl
  · rw [enc4 r c3 (by omega)]
    have a : UInt8.ofNat (240 + r / 262144) ≠ 92 := u8_ne _ 92 (by omega) (by omega) (by omega)
    have b : UInt8.ofNat (240 + r / 262144) ≠ 34 := u8_ne _ 34 (by omega) (by omega) (by omega)
    refine ⟨fun rest => ?_, val_ne _ _ a, Nat.le_refl _, _, _, rfl, b⟩
    rw [List.cons_append, clen_ne _ _ a, u8_to _ (by omega), if_neg (by omega), if_neg (by omega), if_neg (by omega)]
    rfl
theorem fits_hex (c : UInt8) (k r : Nat) (u : List UInt8) (hk : ∀ rest, clen (92 :: c :: rest) = k + 2) (hu : val (92 :: c :: hexDigits r k) = u) (hl : u.length ≤ k + 2) : Fits (92 :: c :: hexDigits r k) u := by
  refine ⟨fun rest => ?_, hu, ?_, _, _, rfl, by decide⟩
  · rw [List.cons_append, List.cons_append, hk]; simp [hex_len]
  · simp [hex_len]; omega
theorem fits_esc (r : Nat) : Fits (escRune 34 false r) (encodeRune (r : Int)) := by
  unfold escRune
  by_cases c0 : r = 34
  · subst c0; exact ⟨fun rest => rfl, rfl, by decide, _, _, rfl, by decide⟩
  by_cases c1 : r = 92
  · subst c1; exact ⟨fun rest => rfl, rfl, by decide, _, _, rfl, by decide⟩
  rw [if_neg (by simp [c0, c1])]
  simp only [Bool.false_eq_true, if_false]
  by_cases cp : isPrint r = true
  · rw [if_pos cp, enc_rune]; exact fits_enc r c0 c1
  rw [if_neg cp]
  by_cases k7 : r = 7
  · subst k7; exact ⟨fun rest => rfl, rfl, by decide, _, _, rfl, by decide⟩
  by_cases k8 : r = 8
  · subst k8; exact ⟨fun rest => rfl, rfl, by decide, _, _, rfl, by decide⟩
  by_cases k12 : r = 12
  · subst k12; exact ⟨fun rest => rfl, rfl, by decide, _, _, rfl, by decide⟩
  by_cases k10 : r = 10
  · subst k10; exact ⟨fun rest => rfl, rfl, by decide, _, _, rfl, by decide⟩
  by_cases k13 : r = 13
  · subst k13; exact ⟨fun rest => rfl, rfl, by decide, _, _, rfl, by decide⟩
  by_cases k9 : r = 9
  · subst k9; exact ⟨fun rest => rfl, rfl, by decide, _, _, rfl, by decide⟩
  by_cases k11 : r = 11
  · subst k11; exact ⟨fun rest => rfl, rfl, by decide, _, _, rfl, by decide⟩
  simp only [beq_iff_eq, k7, k8, k12, k10, k13, k9, k11, if_false]
  by_cases c9 : r < 32 ∨ r = 127
  · rw [if_pos (by simpa using c9)]
    have hr : r < 128 := by omega
    refine fits_hex 120 2 r _ (fun _ => rfl) ?_ (Nat.le_trans (enc_le r) (by omega))
    rw [enc_small r hr]
    show [UInt8.ofNat (hv (hexDigits r 2))] = _
    rw [hv_two r (by omega)]
  rw [if_neg (by simpa using c9)]
  by_cases cv : Utf8.valid (r : Int) = true
  · have hb : r ≤ 1114111 := by simp [Utf8.valid] at cv; omega
    rw [if_neg (by simp [cv])]
    by_cases c11 : r < 65536
    · rw [if_pos c11]
      refine fits_hex 117 4 r _ (fun _ => rfl) ?_ (Nat.le_trans (enc_le r) (by omega))
      show encodeRune ((hv (hexDigits r 4) : Nat) : Int) = _
      rw [hv_four r c11]
    · rw [if_neg c11]
      refine fits_hex 85 8 r _ (fun _ => rfl) ?_ (Nat.le_trans (enc_le r) (by omega))
      show encodeRune ((hv (hexDigits r 8) : Nat) : Int) = _
      rw [hv_eight r (by omega)]
  · rw [if_pos (by simpa using cv)]
    refine fits_hex 117 4 65533 _ (fun _ => rfl) ?_ (Nat.le_trans (enc_le r) (by omega))
    show encodeRune ((hv (hexDigits 65533 4) : Nat) : Int) = _
    rw [hv_four 65533 (by omega), ← enc_rune r, encBad r (by simp [Utf8.valid] at cv; omega)]
    rfl
theorem fits_piece (l : List UInt8) (hne : l ≠ []) : Fits (piece l) (l.take (decodeL l).2) := by
  unfold piece
  by_cases c : (decodeL l).2 = 1 ∧ (decodeL l).1 = 65533
  · rw [if_pos c, c.1]
    cases l with
    | nil => exact absurd rfl hne
    | cons b t =>
      refine fits_hex 120 2 b.toNat _ (fun _ => rfl) ?_ (by simp)
      show [UInt8.ofNat (hv (hexDigits b.toNat 2))] = _
      rw [hv_two _ b.toNat_lt]
      simp
  · rw [if_neg c, ← encode_decode l hne (fun h => c ⟨h.2, h.1⟩)]
    exact fits_esc _
theorem Q_len : ∀ (n : Nat) (l : List UInt8), l.length ≤ n → l.length ≤ (Q n l).length
  | 0, l, h => by omega
  | n + 1, l, h => by
    unfold Q
    by_cases e : l = []
    · subst e; simp
    · rw [if_neg e, List.length_append]
      have hf := (fits_piece l e).2.2.1
      have hd := decodeL_le l e
      have hw := decodeL_width l
      rw [List.length_take, Nat.min_eq_left hd] at hf
      have := Q_len n (l.drop (decodeL l).2) (by rw [List.length_drop]; omega)
      rw [List.length_drop] at this
      omega
theorem Q_nil (n : Nat) : Q n [] = [] := by cases n <;> simp [Q]
theorem Q_inj : ∀ (n : Nat) (l : List UInt8) (k : Nat) (m : List UInt8), l.length ≤ n → m.length ≤ k → Q n l ++ [34] = Q k m ++ [34] → l = m
  | n, l, k, m, hl, hm, h => by
    have h0 : ∀ (n : Nat) (l : List UInt8), l ≠ [] → l.length ≤ n → ∀ x y, Q n l ++ x = 34 :: y → False := by
      intro n l hne hl x y e
      cases n with
      | zero => exact hne (List.eq_nil_of_length_eq_zero (by omega))
      | succ n =>
        unfold Q at e
        rw [if_neg hne] at e
        obtain ⟨a, t, hp, ha⟩ := (fits_piece l hne).2.2.2
        rw [hp] at e
        simp only [List.cons_append] at e
        injection e with e _
        exact ha e
    by_cases e : l = []
    · subst e
      rw [Q_nil] at h
      by_cases e2 : m = []
      · exact e2.symm
      · exact absurd h.symm (fun h => h0 k m e2 hm _ _ h)
    · by_cases e2 : m = []
      · subst e2
        rw [Q_nil] at h
        exact absurd h (fun h => h0 n l e hl _ _ h)
      · cases n with
        | zero => exact absurd (List.eq_nil_of_length_eq_zero (by omega)) e
        | succ n =>
          cases k with
          | zero => exact absurd (List.eq_nil_of_length_eq_zero (by omega)) e2
          | succ k =>
            unfold Q at h
            rw [if_neg e, if_neg e2, List.append_assoc, List.append_assoc] at h
            obtain ⟨a1, a2, a3, _⟩ := fits_piece l e
            obtain ⟨b1, b2, b3, _⟩ := fits_piece m e2
            have hlen : (piece l).length = (piece m).length := by
              rw [← a1 (Q n (l.drop (decodeL l).2) ++ [34]), h, b1]
            obtain ⟨hp, hr⟩ := List.append_inj h hlen
            have hd := decodeL_width l
            have hd2 := decodeL_width m
            have := Q_inj n _ k _ (by rw [List.length_drop]; omega) (by rw [List.length_drop]; omega) hr
            rw [← List.take_append_drop (decodeL l).2 l, ← List.take_append_drop (decodeL m).2 m, ← a2, ← b2, hp, this]
theorem quote_inj {a b : List UInt8} (h : quote false a = quote false b) : a = b := by
  rw [quote_Q, quote_Q] at h
  injection h with _ h
  exact Q_inj _ _ _ _ (Nat.le_refl _) (Nat.le_refl _) h
theorem quote_len (a : List UInt8) : a.length + 2 ≤ (quote false a).length := by
  rw [quote_Q]
  have := Q_len a.length a (Nat.le_refl _)
  simp
  omega
theorem quote_head (a : List UInt8) : (quote false a)[0]? = some 34 := by rw [quote_Q]; rfl
theorem quote_last (a : List UInt8) : (quote false a)[(quote false a).length - 1]? = some 34 := by
  rw [quote_Q]
  simp
end Go.Proofs.Qt
