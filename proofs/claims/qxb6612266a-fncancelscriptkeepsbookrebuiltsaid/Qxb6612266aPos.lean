/-
  PLAIN: where zzLadderIs stands in its walk along the orders that are not gone.
-/
import Derived.Test.Qxb6612266aPlain
namespace Go.Proofs.Qxb6612266a.Book

/-- Where the check stands: none met yet; or the last one met was a, of group number li. R: those still to be met. -/
def Pos (P : Nat → Int) (gs : List (List Nat)) (li : Int) (prv : Option Nat) (lp : Int) (R : List Nat) : Prop :=
  (li = -1 ∧ prv = none ∧ lp = 0 ∧ R = gs.flatten) ∨ ∃ G1 g1 a g2 G2, gs = G1 ++ (g1 ++ a :: g2) :: G2 ∧ R = g2 ++ G2.flatten ∧ li = (G1.length : Int) ∧ prv = some a ∧ lp = P a

/-- The first one of all. -/
def StepA (P : Nat → Int) (pv : Nat → Option Nat) (gs : List (List Nat)) (li : Int) (prv : Option Nat) (i : Nat) (R' : List Nat) : Prop :=
  li = -1 ∧ prv = none ∧ 0 < gs.length ∧ (gs.getD 0 []).head? = some i ∧ pv i = none ∧ Pos P gs 0 (some i) (P i) R'
/-- One more of the same group. -/
def StepB (P : Nat → Int) (pv nx : Nat → Option Nat) (gs : List (List Nat)) (li : Int) (prv : Option Nat) (lp : Int) (i : Nat) (R' : List Nat) : Prop :=
  ∃ (j a : Nat), li = (j : Int) ∧ prv = some a ∧ a ∈ gs.flatten ∧ P i = lp ∧ nx a = some i ∧ pv i = some a ∧ Pos P gs li (some i) lp R'
/-- The first one of the next group. -/
def StepC (P : Nat → Int) (pv nx : Nat → Option Nat) (gs : List (List Nat)) (li : Int) (prv : Option Nat) (lp : Int) (i : Nat) (R' : List Nat) : Prop :=
  ∃ (j a : Nat), li = (j : Int) ∧ prv = some a ∧ a ∈ gs.flatten ∧ P i ≠ lp ∧ (gs.getD j []).getLast? = some a ∧ nx a = none ∧ j + 1 < gs.length ∧ (gs.getD (j + 1) []).head? = some i ∧ pv i = none ∧ Pos P gs ((j + 1 : Nat) : Int) (some i) (P i) R'

theorem getD_mid' {α : Type} (G1 : List α) (g d : α) (G2 : List α) : (G1 ++ g :: G2).getD G1.length d = g := by simp
theorem getD_mid1 {α : Type} (G1 : List α) (g g' d : α) (G2 : List α) : (G1 ++ g :: g' :: G2).getD (G1.length + 1) d = g' := by simp

theorem wr_ne {bids : Bool} {p q : Int} (h : wr bids p q) : q ≠ p := by
  unfold wr at h
  cases bids <;> simp at h <;> omega

theorem pos_step {bids : Bool} {n : Nat} {P : Nat → Int} {ord : List Nat} {gone : Nat → Bool} {pv nx : Nat → Option Nat} {gs : List (List Nat)} (h : PInv bids n P ord gone pv nx gs) {li : Int} {prv : Option Nat} {lp : Int} {i : Nat} {R' : List Nat}
    (hp : Pos P gs li prv lp (i :: R')) : StepA P pv gs li prv i R' ∨ StepB P pv nx gs li prv lp i R' ∨ StepC P pv nx gs li prv lp i R' := by
  rcases hp with ⟨rfl, rfl, rfl, hR⟩ | ⟨G1, g1, a, g2, G2, rfl, hR, rfl, rfl, rfl⟩
  · left
    cases gs with
    | nil => simp at hR
    | cons g G2 =>
      have hne := h.ne g (by simp)
      cases g with
      | nil => exact absurd rfl hne
      | cons x g2 =>
        simp at hR
        obtain ⟨rfl, rfl⟩ := hR
        have hc := h.chain (i :: g2) (by simp)
        exact ⟨rfl, rfl, by simp, by simp, hc.1, .inr ⟨[], [], i, g2, G2, by simp, rfl, rfl, rfl, rfl⟩⟩
  · have hch := h.chain (g1 ++ a :: g2) (by simp)
    have hmem : a ∈ (G1 ++ (g1 ++ a :: g2) :: G2).flatten := by simp
    obtain ⟨m1, m2⟩ := chain_mid g1 none hch
    cases g2 with
    | cons x g2 =>
      right; left
      simp at hR
      obtain ⟨rfl, rfl⟩ := hR
      have hone := h.one (g1 ++ a :: i :: g2) (by simp)
      have hch2 : Chain pv nx none ((g1 ++ [a]) ++ i :: g2) := by simpa using hch
      obtain ⟨m3, _⟩ := chain_mid (g1 ++ [a]) none hch2
      refine ⟨G1.length, a, rfl, rfl, hmem, ?_, by simpa using m2, by rw [m3]; simp, .inr ⟨G1, g1 ++ [a], i, g2, G2, by simp, rfl, rfl, rfl, ?_⟩⟩
      · rw [hone i (by simp), hone a (by simp)]
      · rw [hone i (by simp), hone a (by simp)]
    | nil =>
      right; right
      simp at hR
      cases G2 with
      | nil => simp at hR
      | cons g' G3 =>
        have hne := h.ne g' (by simp)
        cases g' with
        | nil => exact absurd rfl hne
        | cons x g2 =>
          simp at hR
          obtain ⟨rfl, rfl⟩ := hR
          have hone := h.one (g1 ++ [a]) (by simp)
          have hs := h.sorted
          rw [List.pairwise_append, List.pairwise_cons] at hs
          have hwr := hs.2.1.1 (i :: g2) (by simp)
          have hc := h.chain (i :: g2) (by simp)
          refine ⟨G1.length, a, rfl, rfl, hmem, ?_, by rw [getD_mid']; simp, by simpa using m2, by simp, by rw [getD_mid1]; simp, hc.1, .inr ⟨G1 ++ [g1 ++ [a]], [], i, g2, G3, by simp, rfl, by simp, rfl, rfl⟩⟩
          have := wr_ne hwr
          rw [hone a (by simp)]
          simpa using this

/-- Where none is left. -/
theorem pos_end {bids : Bool} {n : Nat} {P : Nat → Int} {ord : List Nat} {gone : Nat → Bool} {pv nx : Nat → Option Nat} {gs : List (List Nat)} (h : PInv bids n P ord gone pv nx gs) {li : Int} {prv : Option Nat} {lp : Int}
    (hp : Pos P gs li prv lp []) : (li = -1 ∧ prv = none ∧ gs = []) ∨ ∃ (j a : Nat), li = (j : Int) ∧ prv = some a ∧ a ∈ gs.flatten ∧ j + 1 = gs.length ∧ (gs.getD j []).getLast? = some a ∧ nx a = none := by
  rcases hp with ⟨rfl, rfl, rfl, hR⟩ | ⟨G1, g1, a, g2, G2, rfl, hR, rfl, rfl, rfl⟩
  · left
    refine ⟨rfl, rfl, ?_⟩
    cases gs with
    | nil => rfl
    | cons g G2 =>
      have hne := h.ne g (by simp)
      cases g with
      | nil => exact absurd rfl hne
      | cons x g2 => simp at hR
  · right
    obtain ⟨rfl, h2⟩ := List.append_eq_nil_iff.1 hR.symm
    have hG2 : G2 = [] := by
      cases G2 with
      | nil => rfl
      | cons g' G3 =>
        have hne := h.ne g' (by simp)
        cases g' with
        | nil => exact absurd rfl hne
        | cons x g2 => simp at h2
    subst hG2
    have hch := h.chain (g1 ++ [a]) (by simp)
    obtain ⟨_, m2⟩ := chain_mid g1 none hch
    exact ⟨G1.length, a, rfl, rfl, by simp, by simp, by rw [getD_mid']; simp, by simpa using m2⟩
end Go.Proofs.Qxb6612266a.Book
