/-
  The frame of the book's functions; small facts off the invariant.
-/
import Derived.Test.Qxb6612266aInv
namespace Go.Proofs.Qxb6612266a
open Go.RowKit
set_option linter.unusedSimpArgs false

/-- w' is w with new blocks, and with writes to the book's own kinds of blocks from B0 on alone (orders, books, rows of levels, levels). -/
structure Fr (B0 : Nat) (w w' : World) : Prop where
  os : w'.os = w.os
  tape : w'.tape = w.tape
  output : w'.output = w.output
  size : w.heap.size ≤ w'.heap.size
  block : ∀ b, b < w.heap.size → (b < B0 ∨ ∀ cs t, w.heap[b]? = some (.cells cs t (0, 0)) → t ≠ 47 ∧ t ≠ 72 ∧ t ≠ 74 ∧ t ≠ 76) → w'.heap[b]? = w.heap[b]?

theorem Fr.refl (B0 : Nat) (w : World) : Fr B0 w w := ⟨rfl, rfl, rfl, Nat.le_refl _, fun _ _ _ => rfl⟩
theorem Fr.trans {B0 : Nat} {a b c : World} (h : Fr B0 a b) (k : Fr B0 b c) : Fr B0 a c :=
  ⟨k.os.trans h.os, k.tape.trans h.tape, k.output.trans h.output, Nat.le_trans h.size k.size, fun i hi hs => by
    have e := h.block i hi hs
    rw [k.block i (Nat.lt_of_lt_of_le hi h.size) (by rw [e]; exact hs), e]⟩
theorem Fr.of_kp {B0 : Nat} {S : Nat → Prop} {w w' : World} (h : Kp S w w') (hS : ∀ b, b < w.heap.size → S b → B0 ≤ b ∧ ∃ cs t, w.heap[b]? = some (.cells cs t (0, 0)) ∧ (t = 47 ∨ t = 72 ∨ t = 74 ∨ t = 76)) : Fr B0 w w' :=
  ⟨h.os, h.tape, h.output, h.size, fun b hb hc => h.block b hb (fun hs => by
    obtain ⟨h1, cs, t, h2, h3⟩ := hS b hb hs
    rcases hc with hc | hc
    · omega
    · obtain ⟨n1, n2, n3, n4⟩ := hc cs t h2
      rcases h3 with rfl | rfl | rfl | rfl
      · exact n1 rfl
      · exact n2 rfl
      · exact n3 rfl
      · exact n4 rfl)⟩
theorem Fr.of_below {B0 : Nat} {w w' : World} (h : Below w.heap.size w w') : Fr B0 w w' := ⟨h.os, h.tape, h.output, h.size, fun b hb _ => h.block b hb⟩
theorem Fr.below {B0 : Nat} {w w' : World} (h : Fr B0 w w') (hB : B0 ≤ w.heap.size) : Below B0 w w' := ⟨h.os, h.tape, h.output, h.size, fun b hb => h.block b (by omega) (.inl hb)⟩
theorem Fr.row {B0 : Nat} {w w' : World} (h : Fr B0 w w') {b t n : Nat} {f : Nat → Value} (hr : w.rowIs b t n f) (ht : t ≠ 47 ∧ t ≠ 72 ∧ t ≠ 74 ∧ t ≠ 76) : w'.rowIs b t n f :=
  hr.of_block (h.block b hr.lt (.inr (fun cs t' h' => by
    obtain ⟨c, hc, _⟩ := hr
    rw [hc] at h'
    simp at h'
    rw [← h'.2]
    exact ht)))

variable {k : Cfg} {ord : List Nat} {gone sf : Nat → Bool} {pv nx : Nat → Option Nat} {gs : List (List Nat)} {lbs : List Nat} {lv : Value} {w : World}

/-- The invariant in a world that has new blocks besides. -/
theorem Inv.below (h : Inv k ord gone sf pv nx gs lbs lv w) {w' : World} (hb : Below w.heap.size w w') : Inv k ord gone sf pv nx gs lbs lv w' where
  base1 := h.base1
  base2 := h.base2
  book := (hb.block _ (lt_of_block h.book)).trans h.book
  lev := by
    rcases h.lev with l | ⟨lb, cap, f, h1, h2, h3, h4, h5, h6⟩
    · exact .inl l
    · exact .inr ⟨lb, cap, f, h1, h2, h3, h4, h5.of_block (hb.block _ h5.lt), h6⟩
  len := h.len
  lvl := fun j hj => (hb.block _ (lt_of_block (h.lvl j hj))).trans (h.lvl j hj)
  baseL := h.baseL
  nodL := h.nodL
  ords := fun i hi => (hb.block _ (lt_of_block (h.ords i hi))).trans (h.ords i hi)
  pure := h.pure

theorem book_cells (h : w.heap[k.kb]? = some (.cells (bookC k lv) 72 (0, 0))) : w.cell? ⟨k.kb, k.off, none⟩ = some (.bool k.bids) ∧ w.cell? ⟨k.kb, k.off + 1, none⟩ = some lv ∧ w.frozen? ⟨k.kb, k.off + 1, none⟩ = false := by
  obtain ⟨h1, h2, _⟩ := cells_of h
  rw [h1, h1, h2]
  unfold bookC Cfg.off Cfg.bids offOf
  by_cases hs : k.s = 0 <;> simp [hs]

theorem book_set (lv' : Value) : (bookC k lv).setIfInBounds (k.off + 1) lv' = bookC k lv' := by
  unfold bookC Cfg.off offOf
  by_cases hs : k.s = 0 <;> simp [hs]

/-- How many levels at most. -/
theorem gs_len (h : Inv k ord gone sf pv nx gs lbs lv w) : gs.length ≤ ord.length := by
  have h1 : ∀ l : List (List Nat), (∀ g, g ∈ l → g ≠ []) → l.length ≤ l.flatten.length := by
    intro l
    induction l with
    | nil => simp
    | cons a l ih =>
      intro hl
      have := ih (fun g hg => hl g (by simp [hg]))
      have ha : 0 < a.length := List.length_pos_iff.2 (hl a (by simp))
      rw [List.flatten_cons, List.length_append, List.length_cons]
      omega
  have h2 := h1 gs h.pure.ne
  rw [← h.pure.alive] at h2
  exact Nat.le_trans h2 (List.length_filter_le _ _)

/-- The test of the search, at level j. -/
theorem better_iff {G1 : List (List Nat)} {g : List Nat} {G2 : List (List Nat)} {bids : Bool} {P : Nat → Int} (hs : (G1 ++ g :: G2).Pairwise (fun a b => Book.wr bids (P (a.headD 0)) (P (b.headD 0)))) (j : Nat) (hj : j < (G1 ++ g :: G2).length) :
    isBetter bids (P (g.headD 0)) (P (((G1 ++ g :: G2).getD j []).headD 0)) = false ↔ G1.length ≤ j := by
  rw [List.pairwise_append, List.pairwise_cons] at hs
  obtain ⟨_, ⟨s2, _⟩, s3⟩ := hs
  rcases Nat.lt_trichotomy j G1.length with h | h | h
  · have e : (G1 ++ g :: G2).getD j [] = G1[j] := by simp [List.getElem?_append_left h, h]
    rw [e]
    have := s3 G1[j] (List.getElem_mem _) g (by simp)
    unfold Book.wr at this
    unfold isBetter
    cases bids <;> simp_all <;> omega
  · have e : (G1 ++ g :: G2).getD j [] = g := by simp [h]
    rw [e]
    unfold isBetter
    cases bids <;> simp [h]
  · have hlt : j - G1.length - 1 < G2.length := by simp at hj; omega
    have e : (G1 ++ g :: G2).getD j [] = G2[j - G1.length - 1] := by
      obtain ⟨d, rfl⟩ : ∃ d, j = G1.length + (d + 1) := ⟨j - G1.length - 1, by omega⟩
      simp at hlt
      simp [List.getElem?_append_right, hlt]
    rw [e]
    have := s2 _ (List.getElem_mem hlt)
    unfold Book.wr at this
    unfold isBetter
    cases bids <;> simp_all <;> omega

/-- The neighbours of one in the midst of a group. -/
theorem neigh {G1 : List (List Nat)} {X : List Nat} {i0 : Nat} {Y : List Nat} {G2 : List (List Nat)} (h : Book.PInv k.bids k.n k.P ord gone pv nx (G1 ++ (X ++ i0 :: Y) :: G2)) :
    pv i0 = X.getLast? ∧ nx i0 = Y.head? ∧ i0 < k.n ∧ (∀ a, pv i0 = some a → a < k.n ∧ a ≠ i0) ∧ (∀ b, nx i0 = some b → b < k.n ∧ b ≠ i0) ∧ (∀ a b, pv i0 = some a → nx i0 = some b → a ≠ b) := by
  have hch := h.chain (X ++ i0 :: Y) (by simp)
  obtain ⟨mp, mn⟩ := Book.chain_mid X none hch
  have mp' : pv i0 = X.getLast? := by rw [mp]; simp
  have hfl : (G1 ++ (X ++ i0 :: Y) :: G2).flatten = G1.flatten ++ ((X ++ i0 :: Y) ++ G2.flatten) := by simp
  have hnd := h.nodup
  rw [hfl] at hnd
  have hng : (X ++ i0 :: Y).Nodup := (List.nodup_append.1 (List.nodup_append.1 hnd).2.1).1
  have hlt : ∀ i, i ∈ X ++ i0 :: Y → i < k.n := fun i hi => h.lt i (by rw [hfl]; simp only [List.mem_append] at hi ⊢; exact .inr (.inl hi))
  have hiX : i0 ∉ X := fun e => (List.nodup_append.1 hng).2.2 i0 e i0 (by simp) rfl
  have hiY : i0 ∉ Y := (List.nodup_cons.1 (List.nodup_append.1 hng).2.1).1
  refine ⟨mp', mn, hlt i0 (by simp), fun a ha => ?_, fun b hb => ?_, fun a b ha hb => ?_⟩
  · rw [mp'] at ha
    have := List.mem_of_getLast? ha
    exact ⟨hlt a (by simp [this]), fun e => hiX (e ▸ this)⟩
  · rw [mn] at hb
    have := List.mem_of_mem_head? hb
    exact ⟨hlt b (by simp [this]), fun e => hiY (e ▸ this)⟩
  · rw [mp'] at ha
    rw [mn] at hb
    have h1 := List.mem_of_getLast? ha
    have h2 := List.mem_of_mem_head? hb
    exact (List.nodup_append.1 hng).2.2 a h1 b (by simp [h2])

theorem getD_mid {α : Type} (G1 : List α) (g d : α) (G2 : List α) : (G1 ++ g :: G2).getD G1.length d = g := by simp
theorem getD_other {α : Type} (G1 : List α) (g g' d : α) (G2 : List α) (j : Nat) (h : j ≠ G1.length) : (G1 ++ g :: G2).getD j d = (G1 ++ g' :: G2).getD j d := by
  rcases Nat.lt_or_ge j G1.length with h1 | h1
  · simp [List.getElem?_append_left h1]
  · obtain ⟨e, rfl⟩ : ∃ e, j = G1.length + (e + 1) := ⟨j - G1.length - 1, by omega⟩
    simp [List.getElem?_append_right]

theorem nodup_getD {l : List Nat} (h : l.Nodup) {i j : Nat} (hi : i < l.length) (hj : j < l.length) (hne : i ≠ j) : l.getD i 0 ≠ l.getD j 0 := by
  simp only [List.getD_eq_getElem?_getD, List.getElem?_eq_getElem hi, List.getElem?_eq_getElem hj, Option.getD_some]
  intro e
  exact hne ((List.getElem_inj h).1 e)

/-- The level's cells, its one order taken out: as the code leaves them. -/
theorem lvl_after {X : List Nat} {i0 : Nat} {Y : List Nat} (h1 : pv i0 = X.getLast?) (h2 : nx i0 = Y.head?) (hone : ∀ i, i ∈ X ++ i0 :: Y → k.P i = k.P ((X ++ i0 :: Y).headD 0)) (hne : X ++ Y ≠ []) :
    (#[.int .i64 (k.P ((X ++ i0 :: Y).headD 0)), if pv i0 = none then k.ptr (nx i0) else k.ptr (X ++ i0 :: Y).head?, if nx i0 = none then k.ptr (pv i0) else k.ptr (X ++ i0 :: Y).getLast?] : Array Value) = lvlC k (X ++ Y) := by
  have hp : k.P ((X ++ Y).headD 0) = k.P ((X ++ i0 :: Y).headD 0) := hone _ (Book.mem_ins (Book.headD_mem hne))
  unfold lvlC
  rw [hp, h1, h2]
  cases X with
  | nil =>
    cases Y with
    | nil => exact absurd rfl hne
    | cons b r => simp [List.getLast?_cons]
  | cons a X =>
    cases Y with
    | nil => simp [List.getLast?_cons]
    | cons b r => simp [List.getLast?_cons, List.getLast?_append]

/-- What (*level).remove leaves of the rest of the book. -/
theorem rem_frame {G1 : List (List Nat)} {X : List Nat} {i0 : Nat} {Y : List Nat} {G2 : List (List Nat)} (h : Inv k ord gone sf pv nx (G1 ++ (X ++ i0 :: Y) :: G2) lbs lv w) {W : World}
    (hK : Kp (fun b => b = lbs.getD G1.length 0 ∨ ∃ i, i < k.n ∧ b = k.c + i) w W) :
    W.heap[k.kb]? = some (.cells (bookC k lv) 72 (0, 0)) ∧ LevIs k W lv lbs ∧ (∀ j, j < (G1 ++ (X ++ i0 :: Y) :: G2).length → j ≠ G1.length → W.heap[lbs.getD j 0]? = some (.cells (lvlC k ((G1 ++ (X ++ i0 :: Y) :: G2).getD j [])) 76 (0, 0))) ∧ Fr k.B0 w W := by
  have hj0 : G1.length < (G1 ++ (X ++ i0 :: Y) :: G2).length := by simp
  have hL := h.lvl G1.length hj0
  have hnot : ∀ b cs t, w.heap[b]? = some (.cells cs t (0, 0)) → t ≠ 76 → t ≠ 47 → ¬ (b = lbs.getD G1.length 0 ∨ ∃ i, i < k.n ∧ b = k.c + i) := by
    rintro b cs t hb h1 h2 (rfl | ⟨i, hi, rfl⟩)
    · rw [hL] at hb; simp at hb; exact h1 hb.2.symm
    · rw [h.ords i hi] at hb; simp at hb; exact h2 hb.2.symm
  refine ⟨(hK.block _ (lt_of_block h.book) (hnot _ _ _ h.book (by decide) (by decide))).trans h.book, ?_, fun j hj hne => ?_, Fr.of_kp hK ?_⟩
  · rcases h.lev with l | ⟨lb, cap, f, h1, h2, h3, h4, h5, h6⟩
    · exact .inl l
    · refine .inr ⟨lb, cap, f, h1, h2, h3, h4, h5.of_block (hK.block _ h5.lt ?_), h6⟩
      obtain ⟨c, hc, _⟩ := h5
      exact hnot _ _ _ hc (by decide) (by decide)
  · refine (hK.block _ (lt_of_block (h.lvl j hj)) ?_).trans (h.lvl j hj)
    rintro (e | ⟨i, hi, e⟩)
    · exact nodup_getD h.nodL (by rw [h.len]; exact hj) (by rw [h.len]; exact hj0) hne e
    · have := h.lvl j hj
      rw [e, h.ords i hi] at this
      simp at this
  · rintro b _ (rfl | ⟨i, hi, rfl⟩)
    · refine ⟨h.baseL _ ?_, _, 76, hL, by simp⟩
      have : G1.length < lbs.length := by rw [h.len]; exact hj0
      simp [List.getElem?_eq_getElem this]
    · exact ⟨by have := h.base2; omega, _, 47, h.ords i hi, by simp⟩

/-- (A) The level keeps some. -/
theorem Inv.rem_keep {G1 : List (List Nat)} {X : List Nat} {i0 : Nat} {Y : List Nat} {G2 : List (List Nat)} (h : Inv k ord gone sf pv nx (G1 ++ (X ++ i0 :: Y) :: G2) lbs lv w) (hne : X ++ Y ≠ []) :
    Inv k ord (fun i => if i = i0 then true else gone i) sf (Book.pvR pv nx i0) (Book.nxR pv nx i0) (Book.remG G1 X Y G2) lbs lv (lrem w (lbs.getD G1.length 0) (k.c + i0) ((pv i0).map (k.c + ·)) ((nx i0).map (k.c + ·))) ∧
    Fr k.B0 w (lrem w (lbs.getD G1.length 0) (k.c + i0) ((pv i0).map (k.c + ·)) ((nx i0).map (k.c + ·))) := by
  obtain ⟨n1, n2, n3, n4, n5, n6⟩ := neigh h.pure
  have hj0 : G1.length < (G1 ++ (X ++ i0 :: Y) :: G2).length := by simp
  have hL := h.lvl G1.length hj0
  rw [getD_mid] at hL
  obtain ⟨b1, b2, b3⟩ := lrem_blocks k sf pv nx _ i0 _ _ _ w hL h.ords n3 n4 n5 n6
  obtain ⟨f1, f2, f3, f4⟩ := rem_frame h b3
  have er : Book.remG G1 X Y G2 = G1 ++ (X ++ Y) :: G2 := if_neg hne
  refine ⟨⟨h.base1, h.base2, f1, f2, ?_, ?_, h.baseL, h.nodL, b2, h.pure.remove⟩, f4⟩
  · rw [er, h.len]; simp
  · intro j hj
    rw [er] at hj ⊢
    by_cases e : j = G1.length
    · subst e
      rw [getD_mid, b1, lvl_after n1 n2 (h.pure.one _ (by simp)) hne]
    · rw [f3 j (by simpa using hj) e, getD_other _ _ _ _ _ _ e]
end Go.Proofs.Qxb6612266a
