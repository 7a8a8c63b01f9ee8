/-
  Chains of links: where a chain ends, and what is kept when links are made shorter; no condition.
-/
import Derived.WalkKit
namespace Go.Proofs.Lk
set_option linter.unusedVariables false
section
variable {R : Type}
/-- From r, k links lead to t, which has none. -/
inductive Path (L : R → Option R) : R → R → Nat → Prop
  | done {r : R} : L r = none → Path L r r 0
  | step {r x t : R} {k : Nat} : L r = some x → Path L x t k → Path L r t (k + 1)
variable {L M N : R → Option R} {r x y t u : R} {k m : Nat}
theorem Path.last (h : Path L r t k) : L t = none := by
  induction h with
  | done h => exact h
  | step _ _ ih => exact ih
theorem Path.det (h : Path L r t k) : ∀ {u : R} {m : Nat}, Path L r u m → t = u ∧ k = m := by
  induction h with
  | done h =>
    intro u m h2
    cases h2 with
    | done h3 => exact ⟨rfl, rfl⟩
    | step h3 _ => rw [h] at h3; cases h3
  | step h hp ih =>
    intro u m h2
    cases h2 with
    | done h3 => rw [h] at h3; cases h3
    | step h3 hq =>
      rw [h] at h3
      injection h3 with h3
      subst h3
      obtain ⟨a, b⟩ := ih hq
      exact ⟨a, by rw [b]⟩
/-- t is the end of r's chain. -/
def Root (L : R → Option R) (r t : R) : Prop := ∃ k, Path L r t k
theorem Root.self (h : L r = none) : Root L r r := ⟨0, .done h⟩
theorem Root.step (h : L r = some x) (h2 : Root L x t) : Root L r t := by
  obtain ⟨k, hk⟩ := h2
  exact ⟨k + 1, .step h hk⟩
theorem Root.last (h : Root L r t) : L t = none := by
  obtain ⟨k, hk⟩ := h
  exact hk.last
theorem Root.uniq (h : Root L r t) (h2 : Root L r u) : t = u := by
  obtain ⟨k, hk⟩ := h
  obtain ⟨m, hm⟩ := h2
  exact (hk.det hm).1
theorem Root.next (h : Root L r t) (hx : L r = some x) : Root L x t := by
  obtain ⟨k, hk⟩ := h
  cases hk with
  | done h => rw [hx] at h; cases h
  | step h hp =>
    rw [hx] at h
    injection h with h
    subst h
    exact ⟨_, hp⟩
theorem Root.eq_of_none (h : Root L r t) (hr : L r = none) : t = r := h.uniq (Root.self hr)
/-- M is L, some links made to lead to the chain's end at once. -/
def Comp (L M : R → Option R) : Prop := ∀ y, M y = L y ∨ ∃ t, Root L y t ∧ L y ≠ none ∧ M y = some t
theorem Comp.refl (L : R → Option R) : Comp L L := fun y => .inl rfl
theorem Comp.none_iff (h : Comp L M) (y : R) : M y = none ↔ L y = none := by
  rcases h y with e | ⟨t, _, hn, e⟩
  · rw [e]
  · rw [e]
    exact ⟨(fun x => by cases x), fun x => absurd x hn⟩
theorem Comp.root (h : Comp L M) (hr : Root L y t) : Root M y t := by
  obtain ⟨k, hk⟩ := hr
  induction hk with
  | done h2 => exact Root.self ((h.none_iff _).2 h2)
  | @step r x t k h2 hp ih =>
    rcases h r with e | ⟨u, hu, _, e⟩
    · exact Root.step (by rw [e]; exact h2) ih
    · obtain rfl : u = t := hu.uniq (Root.step h2 ⟨_, hp⟩)
      exact Root.step e (Root.self ((h.none_iff _).2 hp.last))
theorem Comp.root_back (h : Comp L M) (hr : Root M y t) : Root L y t := by
  obtain ⟨k, hk⟩ := hr
  induction hk with
  | done h2 => exact Root.self ((h.none_iff _).1 h2)
  | @step r x t k h2 hp ih =>
    rcases h r with e | ⟨u, hu, _, e⟩
    · exact Root.step (by rw [← e]; exact h2) ih
    · rw [e] at h2
      injection h2 with h2
      subst h2
      obtain rfl := ih.eq_of_none hu.last
      exact hu
theorem Comp.trans (h : Comp L M) (h2 : Comp M N) : Comp L N := fun y => by
  rcases h2 y with e | ⟨t, ht, hn, e⟩
  · rw [e]; exact h y
  · exact .inr ⟨t, h.root_back ht, fun x => hn ((h.none_iff y).2 x), e⟩
/-- One link set to the chain's end. -/
def lset [DecidableEq R] (L : R → Option R) (r t : R) : R → Option R := fun y => if y = r then some t else L y
theorem lset_same [DecidableEq R] (L : R → Option R) (r t : R) : lset L r t r = some t := by simp [lset]
theorem lset_other [DecidableEq R] (L : R → Option R) (r t y : R) (h : y ≠ r) : lset L r t y = L y := by simp [lset, h]
theorem Comp.lset [DecidableEq R] (hr : Root L r t) (hn : L r ≠ none) : Comp L (lset L r t) := fun y => by
  by_cases e : y = r
  · subst e; exact .inr ⟨t, hr, hn, lset_same _ _ _⟩
  · exact .inl (lset_other _ _ _ _ e)
/-- Every link leads to an end at once. -/
def Flat (L : R → Option R) (y : R) : Prop := L y = none ∨ ∃ t, L y = some t ∧ L t = none
theorem Comp.flat (h : Comp L M) (hf : Flat L y) : Flat M y ∧ M y = L y := by
  rcases hf with hf | ⟨t, ht, hn⟩
  · have := (h.none_iff y).2 hf
    exact ⟨.inl this, by rw [this, hf]⟩
  · have e : M y = some t := by
      rcases h y with e | ⟨u, hu, _, e⟩
      · rw [e, ht]
      · rw [e, hu.uniq (Root.step ht (Root.self hn))]
    exact ⟨.inr ⟨t, e, (h.none_iff t).2 hn⟩, by rw [e, ht]⟩
end
end Go.Proofs.Lk
