/-
  Strings by their bytes' numbers (bt), against lists of bytes: prefixes, membership, slices; no condition.
-/
import Derived.WalkKit
import Derived.ProofKit
import Derived.PlainAid
import Derived.Lib.Strings
import Derived.Lib.Bytealg
import Derived.Laws.Strings
namespace Go.Proofs.Str
open Go.PlainAid Go.RowKit

theorem len_data (s : ByteArray) : s.data.toList.length = s.size := rfl
theorem bt_get (s : ByteArray) (k : Nat) (h : k < s.size) : bt s k = ((s.data.toList[k]'(by rw [len_data]; exact h)).toNat : Int) := by
  unfold bt; rw [dif_pos h]; rfl
theorem u8_of_int (x : Int) (h0 : 0 ≤ x) (h1 : x ≤ 255) : x.toNat.toUInt8.toNat = x.toNat := by
  simp; omega
theorem indexByte_nonneg (l : List UInt8) (c : UInt8) : 0 ≤ Lib.indexByte l c ↔ c ∈ l := by
  induction l with
  | nil => simp [Lib.indexByte]
  | cons b l ih =>
    unfold Lib.indexByte
    by_cases e : b = c
    · subst e; simp
    · have e' : (b == c) = false := by simpa using e
      have e2 : ¬ c = b := fun h => e h.symm
      rw [e']
      by_cases h : (Lib.indexByte l c == -1) = true
      · rw [h]
        have : Lib.indexByte l c = -1 := by simpa using h
        rw [this] at ih
        simp [e2]
        intro hm
        have := ih.2 hm
        omega
      · rw [Bool.not_eq_true] at h
        rw [h]
        have hl : -1 ≤ Lib.indexByte l c := by
          clear ih h
          induction l with
          | nil => simp [Lib.indexByte]
          | cons b l ih => unfold Lib.indexByte; split; omega; split <;> omega
        have hn : Lib.indexByte l c ≠ -1 := by simpa using h
        simp only [Bool.false_eq_true, if_false, List.mem_cons, e2, false_or, ← ih]
        omega
theorem mem_bt (s : ByteArray) (c : UInt8) : c ∈ s.data.toList ↔ ∃ k, k < s.size ∧ bt s k = (c.toNat : Int) := by
  constructor
  · intro h
    obtain ⟨k, hk, e⟩ := List.getElem_of_mem h
    refine ⟨k, hk, ?_⟩
    rw [bt_get s k hk, e]
  · rintro ⟨k, hk, e⟩
    rw [bt_get s k hk] at e
    have : s.data.toList[k]'(by rw [len_data]; exact hk) = c := by
      apply UInt8.toNat.inj
      omega
    rw [← this]
    exact List.getElem_mem _
/-- Is byte c among a's? -/
def inA (a : ByteArray) (c : Int) : Bool := decide (0 ≤ Lib.indexByte a.data.toList c.toNat.toUInt8)
theorem inA_iff (a : ByteArray) (c : Int) (h0 : 0 ≤ c) (h1 : c ≤ 255) : inA a c = true ↔ ∃ k, k < a.size ∧ bt a k = c := by
  unfold inA
  rw [decide_eq_true_eq, indexByte_nonneg, mem_bt]
  have : ((c.toNat.toUInt8.toNat : Nat) : Int) = c := by rw [u8_of_int c h0 h1]; omega
  rw [this]
theorem hasPrefix_iff (s p : ByteArray) : Lib.hasPrefix s.data.toList p.data.toList = true ↔ p.size ≤ s.size ∧ ∀ k, k < p.size → bt s k = bt p k := by
  unfold Lib.hasPrefix
  rw [List.isPrefixOf_iff_prefix, List.prefix_iff_getElem]
  constructor
  · rintro ⟨h, hk⟩
    refine ⟨h, fun k hkp => ?_⟩
    rw [bt_get s k (Nat.lt_of_lt_of_le hkp h), bt_get p k hkp, hk k hkp]
  · rintro ⟨h, hk⟩
    refine ⟨h, fun k hkp => ?_⟩
    have := hk k hkp
    rw [bt_get s k (Nat.lt_of_lt_of_le hkp h), bt_get p k hkp] at this
    apply UInt8.toNat.inj
    omega
theorem eq_of_bt {s t : ByteArray} (hs : s.size = t.size) (h : ∀ k, k < s.size → bt s k = bt t k) : s = t := by
  apply WideShapes.bytes_inj
  apply List.ext_getElem hs
  intro k h1 h2
  have := h k h1
  rw [bt_get s k h1, bt_get t k h2] at this
  apply UInt8.toNat.inj
  omega
theorem extract_data (s : ByteArray) (a b : Nat) : (s.extract a b).data.toList = (s.data.toList.drop a).take (b - a) := by
  rw [ByteArray.data_extract, Array.toList_extract]
theorem size_extract_to (s : ByteArray) (a : Nat) : (s.extract a s.size).size = s.size - a := by simp [ByteArray.size_extract]
theorem bt_extract (s : ByteArray) (a b k : Nat) (hb : b ≤ s.size) (h : a + k < b) : bt (s.extract a b) k = bt s (a + k) := by
  have h1 : k < (s.extract a b).size := by simp [ByteArray.size_extract]; omega
  rw [bt_get _ k h1, bt_get s (a + k) (by omega)]
  congr 2
  simp
end Go.Proofs.Str
