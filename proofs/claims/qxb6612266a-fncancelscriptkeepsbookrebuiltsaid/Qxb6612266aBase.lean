/-
  Plain laws on worlds for this seat: what a block holds behind a store, a new block, a draw; and a frame 'Kp S w w'': w' is w with new blocks and with writes to blocks of S alone.
-/
import Derived.Test.Qxb6612266aRows
import Derived.WalkKit
import Derived.Below
import Derived.Deep.Draws
namespace Go.Proofs.Qxb6612266a
open Go.RowKit

theorem cells_of {w : World} {b : Nat} {cs : Array Value} {t : TypeId} (h : w.heap[b]? = some (.cells cs t (0, 0))) :
    (∀ i, w.cell? ⟨b, i, none⟩ = cs[i]?) ∧ (∀ i, w.frozen? ⟨b, i, none⟩ = false) ∧ b < w.heap.size := by
  refine ⟨fun i => ?_, fun i => ?_, ?_⟩
  · simp [World.cell?, h]
  · simp [World.frozen?, h]
  · exact (Array.getElem?_eq_some_iff.1 h).1

theorem blk_set {w : World} {b i : Nat} {cs : Array Value} {t : TypeId} {v : Value} (h : w.heap[b]? = some (.cells cs t (0, 0))) :
    (w.setCell ⟨b, i, none⟩ v).heap[b]? = some (.cells (cs.setIfInBounds i v) t (0, 0)) := by
  simp [World.setCell, Array.getElem?_modify, h]

/-- What a store makes of a block. -/
def objSet (i : Nat) (v : Value) : Obj → Obj
  | .cells c e f => .cells (c.setIfInBounds i v) e f
  | o => o

theorem hs_same {w : World} {b i : Nat} {v : Value} : (w.setCell ⟨b, i, none⟩ v).heap[b]? = (w.heap[b]?).map (objSet i v) := by
  simp [World.setCell, Array.getElem?_modify]
  congr 1

theorem heap_drew {w : World} : w.drew.heap = w.heap := rfl

theorem blk_set_ne {w : World} {a : Addr} {k : Nat} {v : Value} (h : k ≠ a.block) : (w.setCell a v).heap[k]? = w.heap[k]? :=
  Below.heap_setCell w a v k h

theorem blk_alloc_lt {w : World} {o : Obj} {k : Nat} (h : k < w.heap.size) : (w.alloc o).heap[k]? = w.heap[k]? := Below.heap_alloc w o k h

theorem blk_alloc_new {w : World} {o : Obj} : (w.alloc o).heap[w.heap.size]? = some o := by
  show (w.heap.push o)[w.heap.size]? = _
  simp

/-- w' is w with new blocks, and with writes to the blocks of S alone. -/
structure Kp (S : Nat → Prop) (w w' : World) : Prop where
  os : w'.os = w.os
  tape : w'.tape = w.tape
  output : w'.output = w.output
  size : w.heap.size ≤ w'.heap.size
  block : ∀ k, k < w.heap.size → ¬ S k → w'.heap[k]? = w.heap[k]?

theorem Kp.refl (S : Nat → Prop) (w : World) : Kp S w w := ⟨rfl, rfl, rfl, Nat.le_refl _, fun _ _ _ => rfl⟩
theorem Kp.trans {S : Nat → Prop} {a b c : World} (h : Kp S a b) (k : Kp S b c) : Kp S a c :=
  ⟨k.os.trans h.os, k.tape.trans h.tape, k.output.trans h.output, Nat.le_trans h.size k.size, fun i hi hs => (k.block i (Nat.lt_of_lt_of_le hi h.size) hs).trans (h.block i hi hs)⟩
theorem Kp.mono {S T : Nat → Prop} {a b : World} (h : Kp S a b) (hST : ∀ k, k < a.heap.size → S k → T k) : Kp T a b :=
  ⟨h.os, h.tape, h.output, h.size, fun i hi hs => h.block i hi (fun hS => hs (hST i hi hS))⟩
theorem Kp.drew {S : Nat → Prop} {a b : World} (h : Kp S a b) : Kp S a b.drew := ⟨h.os, h.tape, h.output, h.size, h.block⟩
theorem Kp.drewN {S : Nat → Prop} {a b : World} (h : Kp S a b) (n : Nat) : Kp S a (b.drewN n) := ⟨h.os, h.tape, h.output, h.size, h.block⟩
theorem Kp.alloc {S : Nat → Prop} {a b : World} (h : Kp S a b) (o : Obj) : Kp S a (b.alloc o) :=
  ⟨h.os, h.tape, h.output, by have := h.size; simp; omega, fun k hk hs => (blk_alloc_lt (Nat.lt_of_lt_of_le hk h.size)).trans (h.block k hk hs)⟩
theorem Kp.setCell {S : Nat → Prop} {a b : World} (h : Kp S a b) {p : Addr} (v : Value) (hp : S p.block) : Kp S a (b.setCell p v) :=
  ⟨h.os, h.tape, h.output, by have := h.size; simp [World.setCell]; omega, fun k hk hs => (blk_set_ne (a := p) (k := k) (fun e => hs (by rw [e]; exact hp))).trans (h.block k hk hs)⟩
/-- A store into a block that was not there at the first world. -/
theorem Kp.setNew {S : Nat → Prop} {a b : World} (h : Kp S a b) {p : Addr} (v : Value) (hp : a.heap.size ≤ p.block) : Kp S a (b.setCell p v) :=
  ⟨h.os, h.tape, h.output, by have := h.size; simp [World.setCell]; omega, fun k hk hs => (blk_set_ne (by omega)).trans (h.block k hk hs)⟩
theorem Kp.grown {S : Nat → Prop} {a b c : World} {row : Option Nat} (h : Kp S a b) (hg : b.grownBy c row) (hr : ∀ k, row = some k → S k ∨ a.heap.size ≤ k) : Kp S a c :=
  ⟨hg.os.trans h.os, hg.tape.trans h.tape, hg.output.trans h.output, Nat.le_trans h.size hg.size, fun k hk hs => (hg.block k (Nat.lt_of_lt_of_le hk h.size) (fun e => by
    rcases hr k e.symm with h' | h'
    · exact hs h'
    · omega)).trans (h.block k hk hs)⟩
theorem Kp.below {S : Nat → Prop} {a b : World} (h : Kp S a b) {B : Nat} (hB : B ≤ a.heap.size) (hS : ∀ k, k < B → ¬ S k) : Below B a b :=
  ⟨h.os, h.tape, h.output, h.size, fun k hk => h.block k (Nat.lt_of_lt_of_le hk hB) (hS k hk)⟩
end Go.Proofs.Qxb6612266a
