/-
  The order book in memory: the invariant, and what (*level).remove makes of it.
-/
import Derived.Test.Qxb6612266aDelete
import Derived.Test.Qxb6612266aPlain
namespace Go.Proofs.Qxb6612266a
open Go.RowKit
set_option linter.unusedSimpArgs false

/-- What stands fixed: where the book and the orders lie, the side, the time, the prices. -/
structure Cfg where
  B0 : Nat
  kb : Nat
  c : Nat
  n : Nat
  s : Int
  now : Int
  P : Nat → Int

def Cfg.ptr (k : Cfg) (o : Option Nat) : Value := .pointer (o.map fun i => ⟨k.c + i, 0, none⟩)
def Cfg.bids (k : Cfg) : Bool := decide (k.s = 0)
def Cfg.off (k : Cfg) : Nat := offOf k.s

/-- An order's cells. -/
def ordC (k : Cfg) (gone : Bool) (pv nx : Option Nat) (i : Nat) : Array Value :=
  #[.int .i64 (i : Int), .int .u8 k.s, .int .u8 0, .int .i64 (k.P i), .int .i64 1, .int .u8 0, .int .i64 0, .int .i64 0, .int .u64 0, .int .u64 0, .int .i64 0, .int .u8 (if gone then 3 else 0), .int .i64 0, .int .i64 0, .int .i64 (if gone then k.now else 0), k.ptr pv, k.ptr nx]

/-- The book's cells, its one side's levels being lv. -/
def bookC (k : Cfg) (lv : Value) : Array Value :=
  if k.s = 0 then #[.bool true, lv, .bool false, .slice none 0 0, .int .i64 0, .int .i64 0] else #[.bool true, .slice none 0 0, .bool false, lv, .int .i64 0, .int .i64 0]

/-- A level's cells. -/
def lvlC (k : Cfg) (g : List Nat) : Array Value := #[.int .i64 (k.P (g.headD 0)), k.ptr g.head?, k.ptr g.getLast?]

/-- The levels' row. -/
def LevIs (k : Cfg) (w : World) (lv : Value) (lbs : List Nat) : Prop :=
  (lbs = [] ∧ lv = .slice none 0 0) ∨ ∃ lb cap f, lv = .slice (some ⟨lb, 0, none⟩) lbs.length cap ∧ k.B0 ≤ lb ∧ lbs.length ≤ cap ∧ cap ≤ 9223372036854775807 ∧ w.rowIs lb 74 cap f ∧ ∀ j, j < lbs.length → f j = .pointer (some ⟨lbs.getD j 0, 0, none⟩)

/-- THE INVARIANT. 'sf': which orders read as cancelled. -/
structure Inv (k : Cfg) (ord : List Nat) (gone sf : Nat → Bool) (pv nx : Nat → Option Nat) (gs : List (List Nat)) (lbs : List Nat) (lv : Value) (w : World) : Prop where
  base1 : k.B0 ≤ k.kb
  base2 : k.B0 ≤ k.c
  book : w.heap[k.kb]? = some (.cells (bookC k lv) 72 (0, 0))
  lev : LevIs k w lv lbs
  len : lbs.length = gs.length
  lvl : ∀ j, j < gs.length → w.heap[lbs.getD j 0]? = some (.cells (lvlC k (gs.getD j [])) 76 (0, 0))
  baseL : ∀ b, b ∈ lbs → k.B0 ≤ b
  nodL : lbs.Nodup
  ords : ∀ i, i < k.n → w.heap[k.c + i]? = some (.cells (ordC k (sf i) (pv i) (nx i) i) 47 (0, 0))
  pure : Book.PInv k.bids k.n k.P ord gone pv nx gs

/-- Two blocks of two element types are two blocks. -/
theorem ne_of_type {w : World} {a b : Nat} {ca cb : Array Value} {ta tb : TypeId} (ha : w.heap[a]? = some (.cells ca ta (0, 0))) (hb : w.heap[b]? = some (.cells cb tb (0, 0))) (h : ta ≠ tb) : a ≠ b := by
  intro e
  subst e
  rw [ha] at hb
  simp at hb
  exact h hb.2

theorem ord_set15 (k : Cfg) (g : Bool) (pv nx q : Option Nat) (i : Nat) : (ordC k g pv nx i).setIfInBounds 15 (k.ptr q) = ordC k g q nx i := rfl
theorem ord_set16 (k : Cfg) (g : Bool) (pv nx q : Option Nat) (i : Nat) : (ordC k g pv nx i).setIfInBounds 16 (k.ptr q) = ordC k g pv q i := rfl
theorem ptr_none (k : Cfg) : (Value.pointer none) = k.ptr none := rfl
theorem ptr_some (k : Cfg) (i : Nat) : (Value.pointer (some ⟨k.c + i, 0, none⟩)) = k.ptr (some i) := rfl

set_option maxHeartbeats 1000000 in
/-- WHAT (*level).remove MAKES OF THE BLOCKS. -/
theorem lrem_blocks (k : Cfg) (sf : Nat → Bool) (pv nx : Nat → Option Nat) (L i0 : Nat) (pr hd tl : Value) (w : World) (hL : w.heap[L]? = some (.cells #[pr, hd, tl] 76 (0, 0)))
    (hO : ∀ i, i < k.n → w.heap[k.c + i]? = some (.cells (ordC k (sf i) (pv i) (nx i) i) 47 (0, 0))) (h0 : i0 < k.n) (hp : ∀ a, pv i0 = some a → a < k.n ∧ a ≠ i0) (hn : ∀ b, nx i0 = some b → b < k.n ∧ b ≠ i0) (hab : ∀ a b, pv i0 = some a → nx i0 = some b → a ≠ b) :
    (lrem w L (k.c + i0) ((pv i0).map (k.c + ·)) ((nx i0).map (k.c + ·))).heap[L]? = some (.cells #[pr, if pv i0 = none then k.ptr (nx i0) else hd, if nx i0 = none then k.ptr (pv i0) else tl] 76 (0, 0)) ∧
    (∀ i, i < k.n → (lrem w L (k.c + i0) ((pv i0).map (k.c + ·)) ((nx i0).map (k.c + ·))).heap[k.c + i]? = some (.cells (ordC k (sf i) (Book.pvR pv nx i0 i) (Book.nxR pv nx i0 i) i) 47 (0, 0))) ∧
    Kp (fun b => b = L ∨ ∃ i, i < k.n ∧ b = k.c + i) w (lrem w L (k.c + i0) ((pv i0).map (k.c + ·)) ((nx i0).map (k.c + ·))) := by
  have hLi : ∀ i, i < k.n → L ≠ k.c + i := fun i hi => ne_of_type hL (hO i hi) (by decide)
  have hL0 := hLi i0 h0
  cases hpv : pv i0 with
  | none =>
    cases hnx : nx i0 with
    | none =>
      simp only [Option.map_none, lrem]
      refine ⟨?_, fun i hi => ?_, ?_⟩
      · simp (disch := (simp; omega)) only [hs_same, blk_set_ne, hL, Option.map_some, objSet]
        rfl
      · have hi1 := hLi i hi
        by_cases e : i = i0
        · subst e
          simp (disch := (simp; omega)) only [hs_same, blk_set_ne, hO i hi, Option.map_some, objSet]
          simp only [Book.pvR, Book.nxR, if_true]
          rfl
        · simp (disch := (simp; omega)) only [hs_same, blk_set_ne, hO i hi, Option.map_some, objSet]
          simp [Book.pvR, Book.nxR, e, hpv, hnx]
      · exact ((((Kp.refl _ w).setCell _ (by simp)).setCell _ (by simp)).setCell _ (.inr ⟨i0, h0, rfl⟩)).setCell _ (.inr ⟨i0, h0, rfl⟩)
    | some b =>
      obtain ⟨hb1, hb2⟩ := hn b hnx
      have hLb := hLi b hb1
      simp only [Option.map_none, Option.map_some, lrem]
      refine ⟨?_, fun i hi => ?_, ?_⟩
      · simp (disch := (simp; omega)) only [hs_same, blk_set_ne, hL, Option.map_some, objSet]
        rfl
      · have hi1 := hLi i hi
        by_cases e : i = i0
        · subst e
          simp (disch := (simp; omega)) only [hs_same, blk_set_ne, hO i hi, Option.map_some, objSet]
          simp only [Book.pvR, Book.nxR, if_true]
          rfl
        · by_cases e2 : i = b
          · subst e2
            simp (disch := (simp; omega)) only [hs_same, blk_set_ne, hO i hi, Option.map_some, objSet]
            simp only [Book.pvR, Book.nxR, e, if_false, hpv, hnx, if_true]
            rfl
          · simp (disch := (simp; omega)) only [hs_same, blk_set_ne, hO i hi, Option.map_some, objSet]
            simp [Book.pvR, Book.nxR, e, hpv, hnx, Ne.symm e2]
      · exact ((((Kp.refl _ w).setCell _ (by simp)).setCell _ (.inr ⟨b, hb1, rfl⟩)).setCell _ (.inr ⟨i0, h0, rfl⟩)).setCell _ (.inr ⟨i0, h0, rfl⟩)
  | some a =>
    obtain ⟨ha1, ha2⟩ := hp a hpv
    have hLa := hLi a ha1
    cases hnx : nx i0 with
    | none =>
      simp only [Option.map_none, Option.map_some, lrem]
      refine ⟨?_, fun i hi => ?_, ?_⟩
      · simp (disch := (simp; omega)) only [hs_same, blk_set_ne, hL, Option.map_some, objSet]
        rfl
      · have hi1 := hLi i hi
        by_cases e : i = i0
        · subst e
          simp (disch := (simp; omega)) only [hs_same, blk_set_ne, hO i hi, Option.map_some, objSet]
          simp only [Book.pvR, Book.nxR, if_true]
          rfl
        · by_cases e2 : i = a
          · subst e2
            simp (disch := (simp; omega)) only [hs_same, blk_set_ne, hO i hi, Option.map_some, objSet]
            simp only [Book.pvR, Book.nxR, e, if_false, hpv, hnx, if_true]
            rfl
          · simp (disch := (simp; omega)) only [hs_same, blk_set_ne, hO i hi, Option.map_some, objSet]
            simp [Book.pvR, Book.nxR, e, hpv, hnx, Ne.symm e2]
      · exact ((((Kp.refl _ w).setCell _ (.inr ⟨a, ha1, rfl⟩)).setCell _ (by simp)).setCell _ (.inr ⟨i0, h0, rfl⟩)).setCell _ (.inr ⟨i0, h0, rfl⟩)
    | some b =>
      obtain ⟨hb1, hb2⟩ := hn b hnx
      have hLb := hLi b hb1
      have nab := hab a b hpv hnx
      simp only [Option.map_some, lrem]
      refine ⟨?_, fun i hi => ?_, ?_⟩
      · simp (disch := (simp; omega)) only [blk_set_ne, hL]
        simp
      · have hi1 := hLi i hi
        by_cases e : i = i0
        · subst e
          simp (disch := (simp; omega)) only [hs_same, blk_set_ne, hO i hi, Option.map_some, objSet]
          simp only [Book.pvR, Book.nxR, if_true]
          rfl
        · by_cases e2 : i = a
          · subst e2
            simp (disch := (simp; omega)) only [hs_same, blk_set_ne, hO i hi, Option.map_some, objSet]
            simp only [Book.pvR, Book.nxR, e, if_false, hpv, hnx, if_true, Option.some.injEq, Ne.symm nab]
            rfl
          · by_cases e3 : i = b
            · subst e3
              simp (disch := (simp; omega)) only [hs_same, blk_set_ne, hO i hi, Option.map_some, objSet]
              simp only [Book.pvR, Book.nxR, e, if_false, hpv, hnx, if_true, Option.some.injEq, nab]
              rfl
            · simp (disch := (simp; omega)) only [hs_same, blk_set_ne, hO i hi, Option.map_some, objSet]
              simp [Book.pvR, Book.nxR, e, hpv, hnx, Ne.symm e2, Ne.symm e3]
      · exact ((((Kp.refl _ w).setCell _ (.inr ⟨a, ha1, rfl⟩)).setCell _ (.inr ⟨b, hb1, rfl⟩)).setCell _ (.inr ⟨i0, h0, rfl⟩)).setCell _ (.inr ⟨i0, h0, rfl⟩)
end Go.Proofs.Qxb6612266a
