import Derived.Test.Qxb6612266aReads
namespace Go.Proofs.Qxb6612266a
open Go.RowKit
attribute [local go_sem ↓] Go.wp_at_zero Go.wp_at_succ

/-- A pointer to the head of a block, or nil. -/
def ptrB (o : Option Nat) : Value := .pointer (o.map fun b => ⟨b, 0, none⟩)

/-- What (*level).remove does to memory. -/
def lrem (w : World) (L o : Nat) : Option Nat → Option Nat → World
  | none, none => (((w.setCell ⟨L, 1, none⟩ (.pointer none)).setCell ⟨L, 2, none⟩ (.pointer none)).setCell ⟨o, 15, none⟩ (.pointer none)).setCell ⟨o, 16, none⟩ (.pointer none)
  | none, some b => (((w.setCell ⟨L, 1, none⟩ (.pointer (some ⟨b, 0, none⟩))).setCell ⟨b, 15, none⟩ (.pointer none)).setCell ⟨o, 15, none⟩ (.pointer none)).setCell ⟨o, 16, none⟩ (.pointer none)
  | some a, none => (((w.setCell ⟨a, 16, none⟩ (.pointer none)).setCell ⟨L, 2, none⟩ (.pointer (some ⟨a, 0, none⟩))).setCell ⟨o, 15, none⟩ (.pointer none)).setCell ⟨o, 16, none⟩ (.pointer none)
  | some a, some b => (((w.setCell ⟨a, 16, none⟩ (.pointer (some ⟨b, 0, none⟩))).setCell ⟨b, 15, none⟩ (.pointer (some ⟨a, 0, none⟩))).setCell ⟨o, 15, none⟩ (.pointer none)).setCell ⟨o, 16, none⟩ (.pointer none)

/-- A block of cells that may be written, and one of its cells. -/
theorem cf {w : World} {b i : Nat} {cs : Array Value} {t : TypeId} (h : w.heap[b]? = some (.cells cs t (0, 0))) : w.cell? ⟨b, i, none⟩ = cs[i]? ∧ w.frozen? ⟨b, i, none⟩ = false := ⟨(cells_of h).1 i, (cells_of h).2.1 i⟩

set_option maxHeartbeats 1600000 in
theorem lremove_any (L o : Nat) (pv nx : Option Nat) (w : World) (h1 : ∃ v, w.cell? ⟨L, 1, none⟩ = some v) (f1 : w.frozen? ⟨L, 1, none⟩ = false) (h2 : ∃ v, w.cell? ⟨L, 2, none⟩ = some v) (f2 : w.frozen? ⟨L, 2, none⟩ = false)
    (o15 : w.cell? ⟨o, 15, none⟩ = some (ptrB pv)) (g15 : w.frozen? ⟨o, 15, none⟩ = false) (o16 : w.cell? ⟨o, 16, none⟩ = some (ptrB nx)) (g16 : w.frozen? ⟨o, 16, none⟩ = false)
    (hpv : ∀ a, pv = some a → (∃ v, w.cell? ⟨a, 16, none⟩ = some v) ∧ w.frozen? ⟨a, 16, none⟩ = false ∧ a ≠ o ∧ a ≠ L) (hnx : ∀ b, nx = some b → (∃ v, w.cell? ⟨b, 15, none⟩ = some v) ∧ w.frozen? ⟨b, 15, none⟩ = false ∧ b ≠ o ∧ b ≠ L) (hab : ∀ a b, pv = some a → nx = some b → a ≠ b) (hLo : L ≠ o) :
    Calls Try.prog 31 #[.pointer (some ⟨L, 0, none⟩), .pointer (some ⟨o, 0, none⟩)] w fun e w' => e = .returned (.tuple #[]) ∧ ∃ n, w' = (lrem w L o pv nx).drewN n := by
  obtain ⟨v1, h1⟩ := h1
  obtain ⟨v2, h2⟩ := h2
  have hoL : o ≠ L := Ne.symm hLo
  cases pv with
  | none =>
    have q15 : w.cell? ⟨o, 15, none⟩ = some (.pointer none) := o15
    cases nx with
    | none =>
      have q16 : w.cell? ⟨o, 16, none⟩ = some (.pointer none) := o16
      clear hpv hnx hab o15 o16
      go_enter Try.func31, Try.ntmps31
      go_wp2_with fail
      go_end0
      exact ⟨rfl, 0, rfl⟩
    | some b =>
      have q16 : w.cell? ⟨o, 16, none⟩ = some (.pointer (some ⟨b, 0, none⟩)) := o16
      obtain ⟨⟨vb, hb⟩, fb, hbo, hbL⟩ := hnx b rfl
      have hob := Ne.symm hbo
      have hLb := Ne.symm hbL
      clear hpv hnx hab o15 o16
      go_enter Try.func31, Try.ntmps31
      go_wp2_with fail
      go_region
      all_goals
        go_wp2_with fail
        go_end0
        exact ⟨rfl, 1, rfl⟩
  | some a =>
    have q15 : w.cell? ⟨o, 15, none⟩ = some (.pointer (some ⟨a, 0, none⟩)) := o15
    obtain ⟨⟨va, ha⟩, fa, hao, haL⟩ := hpv a rfl
    have hoa := Ne.symm hao
    have hLa := Ne.symm haL
    cases nx with
    | none =>
      have q16 : w.cell? ⟨o, 16, none⟩ = some (.pointer none) := o16
      clear hpv hnx hab o15 o16
      go_enter Try.func31, Try.ntmps31
      go_wp2_with fail
      go_region
      all_goals
        go_wp2_with fail
        go_end0
        exact ⟨rfl, 1, rfl⟩
    | some b =>
      have q16 : w.cell? ⟨o, 16, none⟩ = some (.pointer (some ⟨b, 0, none⟩)) := o16
      obtain ⟨⟨vb, hb⟩, fb, hbo, hbL⟩ := hnx b rfl
      have hob := Ne.symm hbo
      have hLb := Ne.symm hbL
      have nab := hab a b rfl rfl
      have nba := Ne.symm nab
      clear hpv hnx hab o15 o16
      go_enter Try.func31, Try.ntmps31
      go_wp2_with fail
      go_region
      all_goals
        go_wp2_with fail
        go_region
        all_goals
          go_wp2_with fail
          go_end0
          exact ⟨rfl, 2, rfl⟩
end Go.Proofs.Qxb6612266a
