/-
  Small lemmas on how arguments are opened (arrays and slices of integers, strings, bools), and on worlds; no condition.
-/
import Derived.WalkKit
import Derived.ProofKit
import Derived.OpenShut
import Derived.ShutString
import Derived.SliceStrings
import Derived.Deep.Grids
import Derived.DataShut
import Derived.Lib.Hide
import Derived.Carry
namespace Go.Proofs.Aid
open Go.ChangeShapes Go.WideShapes Go.ChangeAt Go.RowKit

/-- What the walk is told of a slice of integers that came in. -/
def IsRow (k : IntKind) (w : World) (a : Option Addr) (len cap : Nat) (zs : List Int) : Prop :=
  (a = none ∧ len = 0 ∧ cap = 0 ∧ zs = []) ∨
  ∃ x, a = some x ∧ len ≤ cap ∧ cap ≤ maxLen ∧ zs.length = cap ∧ (∀ i, i < zs.length → w.cell? (x.add i) = some (.int k (zs.getD i 0))) ∧ ∀ n ∈ zs, (Lit.int k n).wf = true

/-- What the walk is told of a slice of strings that came in. -/
def IsStrs (w : World) (a : Option Addr) (len cap : Nat) (ss : List ByteArray) : Prop :=
  (a = none ∧ len = 0 ∧ cap = 0 ∧ ss = []) ∨
  ∃ x, a = some x ∧ len ≤ cap ∧ cap ≤ maxLen ∧ ss.length = cap ∧ (∀ i, i < ss.length → w.cell? (x.add i) = some (.string (ss.getD i ByteArray.empty))) ∧ ∀ s ∈ ss, s.size ≤ maxLen

/-- What the walk is told of a slice of bools that came in. -/
def IsBools (w : World) (a : Option Addr) (len cap : Nat) (B : Nat → Bool) : Prop :=
  (a = none ∧ len = 0 ∧ cap = 0) ∨
  ∃ x, a = some x ∧ len ≤ cap ∧ cap ≤ maxLen ∧ (∀ i, i < cap → w.cell? (x.add i) = some (.bool (B i)))

section
variable {H : Type} {enc : TypeId × Value → H} {P : Program} {w : World} {base : Nat} {held : Bool}

theorem open_row {t e : TypeId} {k : IntKind} {a : Option Addr} {len cap : Nat} {d : DataW H} {p : List MemPlace} (ht : P.underlying t = some (.slice e)) (he : P.underlying e = some (.int k)) (hc : P.cellsOf e = 1)
    (h : DataW.Trod enc P w base (fun _ => true) held t (.slice a len cap) d p) : ∃ zs, IsRow k w a len cap zs := by
  obtain ⟨fuel, hf⟩ := h
  rcases open_ints ht he hc hf with ⟨hcs, _⟩ | ⟨x, l, c, zs, hcs, _, hl, hm, hz, _, hcell, hwz⟩
  · simp [Value.cells] at hcs
    obtain ⟨rfl, rfl, rfl⟩ := hcs
    exact ⟨[], .inl ⟨rfl, rfl, rfl, rfl⟩⟩
  · simp [Value.cells] at hcs
    obtain ⟨rfl, rfl, rfl⟩ := hcs
    exact ⟨zs, .inr ⟨_, rfl, hl, hm, by simpa using hz, hcell, hwz⟩⟩

theorem open_strs {t e : TypeId} {a : Option Addr} {len cap : Nat} {d : DataW H} {p : List MemPlace} (ht : P.underlying t = some (.slice e)) (he : P.underlying e = some .string) (hc : P.cellsOf e = 1)
    (h : DataW.Trod enc P w base (fun _ => true) held t (.slice a len cap) d p) : ∃ ss, IsStrs w a len cap ss := by
  obtain ⟨fuel, hf⟩ := h
  rcases open_strings ht he hc hf with ⟨hcs, _⟩ | ⟨x, l, c, zs, hcs, _, hl, hm, hz, _, hcell, hwz⟩
  · simp [Value.cells] at hcs
    obtain ⟨rfl, rfl, rfl⟩ := hcs
    exact ⟨[], .inl ⟨rfl, rfl, rfl, rfl⟩⟩
  · simp [Value.cells] at hcs
    obtain ⟨rfl, rfl, rfl⟩ := hcs
    exact ⟨zs, .inr ⟨_, rfl, hl, hm, by simpa using hz, hcell, hwz⟩⟩

theorem open_bls {t e : TypeId} {a : Option Addr} {len cap : Nat} {d : DataW H} {p : List MemPlace} (ht : P.underlying t = some (.slice e)) (he : P.underlying e = some .bool) (hc : P.cellsOf e = 1)
    (h : DataW.Trod enc P w base (fun _ => true) held t (.slice a len cap) d p) : ∃ B, IsBools w a len cap B := by
  obtain ⟨fuel, hf⟩ := h
  rcases Deep.open_bools ht he hc hf with ⟨hcs, _⟩ | ⟨x, l, c, B, hcs, _, hl, hm, _, hcell⟩
  · simp [Value.cells] at hcs
    obtain ⟨rfl, rfl, rfl⟩ := hcs
    exact ⟨fun _ => false, .inl ⟨rfl, rfl, rfl⟩⟩
  · simp [Value.cells] at hcs
    obtain ⟨rfl, rfl, rfl⟩ := hcs
    exact ⟨B, .inr ⟨_, rfl, hl, hm, hcell⟩⟩

theorem okWide_array {r : Reach} {b0 : Nat} {n : Nat} {t e : TypeId} {v : Value} (ht : P.underlying t = some (.array n e)) (h : Value.okWide P w r b0 t v) : ∃ cs, v = .agg cs ∧ cs.size = P.cellsOf t := by
  simp only [Value.okWide, ht] at h
  obtain ⟨cs, h1, h2, _⟩ := h
  exact ⟨cs, h1, h2⟩

theorem open_ints_array {r : Reach} {b0 : Nat} {n : Nat} {t e : TypeId} {k : IntKind} {v : Value} {d : DataW H} {p : List MemPlace} (ht : P.underlying t = some (.array n e)) (he : P.underlying e = some (.int k)) (hc : P.cellsOf e = 1) (hC : P.cellsOf t = n)
    (hv : Value.okWide P w r b0 t v) (h : DataW.Trod enc P w base (fun _ => true) held t v d p) :
    ∃ zs : List Int, v = .agg (zs.map (Value.int k)).toArray ∧ zs.length = n ∧ ∀ z ∈ zs, (Lit.int k z).wf = true := by
  obtain ⟨cs, rfl, hsz⟩ := okWide_array ht hv
  obtain ⟨fuel, hf⟩ := h
  obtain ⟨xs, m, _, _, _, hlen, hx⟩ := DataW.trod_array ht hf
  have hall : ∀ i, i < n → ∃ z, cs.toList[i]? = some (Value.int k z) ∧ (Lit.int k z).wf = true := by
    intro i hi
    have h1 := hx i hi
    rw [hc, Nat.mul_one] at h1
    obtain ⟨y, hy⟩ : ∃ y, xs[i]? = some y := ⟨xs[i], by simp [hlen, hi]⟩
    rw [hy] at h1
    obtain ⟨z, e0, _, hw⟩ := DataW.trod_int he h1
    refine ⟨z, ?_, hw⟩
    have h2 : ((cs.toList.drop i).take 1)[0]? = some (Value.int k z) := by
      have e1 : (Value.agg cs).cells.toList = cs.toList := by simp [Value.cells]
      rw [← e1, e0]; rfl
    simpa using h2
  refine ⟨cs.toList.map (fun v => match v with | .int _ z => z | _ => 0), ?_, by simp [hsz, hC], ?_⟩
  · congr 1
    apply Array.ext'
    simp only [List.map_map]
    apply List.ext_getElem?
    intro i
    by_cases hi : i < n
    · obtain ⟨z, hz, _⟩ := hall i hi
      rw [List.getElem?_map, hz]
      rfl
    · have : cs.toList.length ≤ i := by simp [hsz, hC]; omega
      rw [List.getElem?_eq_none this, List.getElem?_eq_none (by simpa using this)]
  · intro z hz
    rw [List.mem_map] at hz
    obtain ⟨v, hv', rfl⟩ := hz
    obtain ⟨i, hi, rfl⟩ := List.getElem_of_mem hv'
    have hi' : i < n := by simpa [hsz, hC] using hi
    obtain ⟨z, hz, hw⟩ := hall i hi'
    rw [List.getElem?_eq_getElem hi] at hz
    injection hz with hz
    rw [hz]
    exact hw
end

theorem u8_of {n : Int} (h : (Lit.int .u8 n).wf = true) : 0 ≤ n ∧ n ≤ 255 := by simpa [Lit.wf_int_iff, IntKind.min_u8, IntKind.max_u8] using h
theorem u16_of {n : Int} (h : (Lit.int .u16 n).wf = true) : 0 ≤ n ∧ n ≤ 65535 := by simpa [Lit.wf_int_iff, IntKind.min_u16, IntKind.max_u16] using h
theorem u32_of {n : Int} (h : (Lit.int .u32 n).wf = true) : 0 ≤ n ∧ n ≤ 4294967295 := by simpa [Lit.wf_int_iff, IntKind.min_u32, IntKind.max_u32] using h
theorem u64_of {n : Int} (h : (Lit.int .u64 n).wf = true) : 0 ≤ n ∧ n ≤ 18446744073709551615 := by simpa [Lit.wf_int_iff, IntKind.min_u64, IntKind.max_u64] using h
theorem i32_of {n : Int} (h : (Lit.int .i32 n).wf = true) : -2147483648 ≤ n ∧ n ≤ 2147483647 := by simpa [Lit.wf_int_iff, IntKind.min_i32, IntKind.max_i32] using h
theorem i64_of {n : Int} (h : (Lit.int .i64 n).wf = true) : -9223372036854775808 ≤ n ∧ n ≤ 9223372036854775807 := by simpa [Lit.wf_int_iff, IntKind.min_i64, IntKind.max_i64] using h

theorem bcell {W w1 : World} (hb : Below W.heap.size W w1) : (∀ b o, b < W.heap.size → w1.cell? ⟨b, o, none⟩ = W.cell? ⟨b, o, none⟩) ∧ (∀ b o, b < W.heap.size → w1.frozen? ⟨b, o, none⟩ = W.frozen? ⟨b, o, none⟩) :=
  ⟨fun b o h => hb.cell (p := ⟨b, o, none⟩) h, fun b o h => hb.frozen (p := ⟨b, o, none⟩) h⟩
theorem ret_int {k : IntKind} {a b : Int} (h : a = b) : Ending.returned (.int k a) = .returned (.int k b) := by rw [h]
theorem ret_bool {a b : Bool} (h : a = b) : Ending.returned (.bool a) = .returned (.bool b) := by rw [h]
theorem take_snoc (s : ByteArray) (k : Nat) (h : k < s.size) : s.data.toList.take (k + 1) = s.data.toList.take k ++ [s[k]] := by
  rw [List.take_succ_eq_append_getElem (by simpa using h)]; rfl
theorem size_data (s : ByteArray) : s.data.toList.length = s.size := rfl
theorem empty_of (s : ByteArray) (h : s.size = 0) : s = ByteArray.empty := by
  apply bytes_inj
  have : s.data.toList.length = 0 := (size_data s).trans h
  rw [List.eq_nil_of_length_eq_zero this]; rfl
theorem nonempty_of (s : ByteArray) (h : s.size ≠ 0) : s.toList.isEmpty = false := by
  rw [ByteArray.toList_eq]
  have := size_data s
  cases e : s.data.toList with
  | nil => rw [e] at this; exact absurd this.symm h
  | cons a l => rfl
theorem toList_ne (s : ByteArray) (h : s.size ≠ 0) : ¬ s.toList = [] := fun e => by have := nonempty_of s h; rw [e] at this; cases this
end Go.Proofs.Aid
