/-
  PLAIN: the insertion sort of zzArrange.
-/
import Derived.Test.Qxb6612266aPlain
namespace Go.Proofs.Qxb6612266a.Book
set_option linter.unusedSimpArgs false

/-- zzWorse. -/
def wrB (bids : Bool) (p q : Int) : Bool := if bids then decide (p < q) else decide (q < p)

/-- Sorted, worst first. -/
def SortedO (bids : Bool) (P : Nat → Int) (os : List Nat) : Prop := os.Pairwise (fun a b => wrB bids (P b) (P a) = false)

theorem wrB_trans {bids : Bool} {p q r : Int} (h1 : wrB bids p q = false) (h2 : wrB bids q r = false) : wrB bids p r = false := by
  unfold wrB at *
  cases bids <;> simp_all <;> omega
theorem wrB_asymm {bids : Bool} {p q : Int} (h : wrB bids p q = true) : wrB bids q p = false := by
  unfold wrB at *
  cases bids <;> simp_all <;> omega

/-- The list behind the insertion. -/
def insAt (os : List Nat) (j i : Nat) : List Nat := os.take j ++ i :: os.drop j

theorem insAt_length {os : List Nat} {j i : Nat} (h : j ≤ os.length) : (insAt os j i).length = os.length + 1 := by
  simp [insAt]; omega

theorem insAt_getD {os : List Nat} {j i t : Nat} (h : j ≤ os.length) : (insAt os j i).getD t 0 = if t < j then os.getD t 0 else if t = j then i else os.getD (t - 1) 0 := by
  unfold insAt
  by_cases h1 : t < j
  · rw [if_pos h1]
    simp [List.getElem?_append_left, show t < min j os.length by omega, show t < os.length by omega]
  · rw [if_neg h1]
    by_cases h2 : t = j
    · subst h2
      rw [if_pos rfl]
      simp [List.getElem?_append_right, h]
    · rw [if_neg h2]
      obtain ⟨d, rfl⟩ : ∃ d, t = j + (d + 1) := ⟨t - j - 1, by omega⟩
      rw [show j + (d + 1) - 1 = j + d from by omega]
      have e : (os.take j).length = j := by simp; omega
      simp [List.getElem?_append_right, e, List.getElem?_drop]

theorem insAt_mem {os : List Nat} {j i x : Nat} : x ∈ insAt os j i ↔ x = i ∨ x ∈ os := by
  unfold insAt
  rw [List.mem_append, List.mem_cons]
  constructor
  · rintro (h | h | h)
    · exact .inr (List.mem_of_mem_take h)
    · exact .inl h
    · exact .inr (List.mem_of_mem_drop h)
  · rintro (h | h)
    · exact .inr (.inl h)
    · rw [← List.take_append_drop j os, List.mem_append] at h
      rcases h with h | h
      · exact .inl h
      · exact .inr (.inr h)

theorem insAt_nodup {os : List Nat} {j i : Nat} (h : os.Nodup) (hi : i ∉ os) : (insAt os j i).Nodup := by
  unfold insAt
  have h' := h
  rw [← List.take_append_drop j os] at h'
  obtain ⟨a, b, c⟩ := List.nodup_append.1 h'
  refine List.nodup_append.2 ⟨a, List.nodup_cons.2 ⟨fun e => hi (List.mem_of_mem_drop e), b⟩, fun x hx y hy => ?_⟩
  rcases List.mem_cons.1 hy with rfl | hy
  · rintro rfl
    exact hi (List.mem_of_mem_take hx)
  · exact c x hx y hy

theorem insAt_sorted {bids : Bool} {P : Nat → Int} {os : List Nat} {j i : Nat} (hs : SortedO bids P os) (hj : j ≤ os.length) (h1 : ∀ x, x ∈ os.drop j → wrB bids (P i) (P x) = true) (h2 : j = 0 ∨ wrB bids (P i) (P (os.getD (j - 1) 0)) = false) :
    SortedO bids P (insAt os j i) := by
  unfold SortedO insAt at *
  have hs' := hs
  rw [← List.take_append_drop j os, List.pairwise_append] at hs'
  obtain ⟨a, b, c⟩ := hs'
  rw [List.pairwise_append, List.pairwise_cons]
  refine ⟨a, ⟨fun x hx => wrB_asymm (h1 x hx), b⟩, fun x hx y hy => ?_⟩
  rcases List.mem_cons.1 hy with rfl | hy
  · rcases h2 with h2 | h2
    · subst h2; simp at hx
    · -- x stands at or ahead of place j - 1
      obtain ⟨t, ht, rfl⟩ := List.mem_iff_getElem.1 hx
      have htj : t < j := by simp at ht; omega
      have e1 : (os.take j)[t] = os[t]'(by omega) := by simp
      rw [e1]
      have e2 : os.getD (j - 1) 0 = os[j - 1]'(by omega) := by simp [show j - 1 < os.length by omega]
      rw [e2] at h2
      by_cases e3 : t = j - 1
      · simpa [e3] using h2
      · exact wrB_trans h2 ((List.pairwise_iff_getElem.1 hs) t (j - 1) (by omega) (by omega) (by omega))
  · exact c x hx y hy
end Go.Proofs.Qxb6612266a.Book
