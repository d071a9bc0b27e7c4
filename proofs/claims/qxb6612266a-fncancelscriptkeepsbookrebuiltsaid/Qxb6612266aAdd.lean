/-
  ZZnewBook, ZZlink, ZZaddLevel walked.
-/
import Derived.Test.Qxb6612266aLadderIs
import Derived.Test.Qxb6612266aArrange
import Derived.Deep.AppendLies
import Derived.Outline
namespace Go.Proofs.Qxb6612266a
open Go.RowKit
set_option linter.unusedSimpArgs false

variable {k : Cfg} {ord : List Nat} {gone sf : Nat → Bool} {pv nx : Nat → Option Nat} {gs : List (List Nat)} {lbs : List Nat} {lv : Value} {w : World}

set_option maxRecDepth 100000 in
theorem newBook_any (w : World) : Calls Try.prog 16 #[.int .i64 0] w fun e w' => e = .returned (.pointer (some ⟨w.heap.size, 0, none⟩)) ∧ w' = w.alloc (.cells #[.bool true, .slice none 0 0, .bool false, .slice none 0 0, .int .i64 0, .int .i64 0] 72 (0, 0)) := by
  go_enter Try.func16, Try.ntmps16
  go_wp2
  go_ret
  exact ⟨rfl, rfl⟩

set_option maxRecDepth 100000 in
theorem link_any (a c : Nat) (w : World) (va vc : Value) (ca : w.cell? ⟨a, 16, none⟩ = some va) (cc : w.cell? ⟨c, 15, none⟩ = some vc) (ha : w.frozen? ⟨a, 16, none⟩ = false) (hc : w.frozen? ⟨c, 15, none⟩ = false) (hne : a ≠ c) : Calls Try.prog 20 #[.pointer (some ⟨a, 0, none⟩), .pointer (some ⟨c, 0, none⟩)] w fun e w' => e = .returned (.tuple #[]) ∧ w' = (w.setCell ⟨a, 16, none⟩ (.pointer (some ⟨c, 0, none⟩))).setCell ⟨c, 15, none⟩ (.pointer (some ⟨a, 0, none⟩)) := by
  have hne' : c ≠ a := Ne.symm hne
  go_enter Try.func20, Try.ntmps20
  go_wp2_with fail
  go_end0
  exact ⟨rfl, rfl⟩

theorem lev_own (h : LevIs k w lv lbs) : w.ownsRow k.B0 74 1 lv lbs.length (lbs.map fun b => .pointer (some ⟨b, 0, none⟩)) := by
  refine ⟨by simp, ?_⟩
  rcases h with ⟨rfl, rfl⟩ | ⟨lb, cap, f, rfl, h1, h2, h3, ⟨c, hc, hs, hf⟩, h5⟩
  · exact .inl ⟨rfl, rfl⟩
  · refine .inr ⟨lb, cap, c, rfl, h1, hc, h2, h3, by omega, ?_⟩
    apply List.ext_getElem?
    intro j
    rw [List.getElem?_take]
    by_cases hj : j < lbs.length
    · have := hf j (by omega)
      simp [hj, this, h5 j hj]
    · simp [hj]

theorem own_lev {v : Value} {n : Nat} (h : w.ownsRow k.B0 74 1 v n (lbs.map fun b => .pointer (some ⟨b, 0, none⟩))) : LevIs k w v lbs := by
  obtain ⟨hl, h⟩ := h
  simp at hl
  subst hl
  rcases h with ⟨rfl, h0⟩ | ⟨g, cap, cur, rfl, h1, h2, h3, h4, h5, h6⟩
  · exact .inl ⟨List.length_eq_zero_iff.1 h0, rfl⟩
  · refine .inr ⟨g, cap, fun j => cur.getD j default, rfl, h1, h3, h4, ⟨cur, h2, by omega, fun i hi => by simp [show i < cur.size by omega]⟩, fun j hj => ?_⟩
    have e := congrArg (fun l => l[j]?) h6
    have hjc : j < cur.size := by omega
    simp [List.getElem?_take, hj, hjc] at e
    simp [hjc, e, hj]

theorem blk_two (w : World) (A B : Obj) : ((w.alloc A).alloc B).heap[w.heap.size + 1]? = some B := by
  have := blk_alloc_new (w := w.alloc A) (o := B)
  simpa using this

theorem LevIs.shape (h : LevIs k w lv lbs) : ∃ op cap, lv = .slice op lbs.length cap ∧ (op = none ∨ ∃ lb, op = some ⟨lb, 0, none⟩) := by
  rcases h with ⟨rfl, rfl⟩ | ⟨lb, cap, f, rfl, _⟩
  · exact ⟨none, 0, rfl, .inl rfl⟩
  · exact ⟨_, cap, rfl, .inr ⟨lb, rfl⟩⟩

theorem LevIs.type (h : LevIs k w lv lbs) {b : Nat} (hb : lv.ownBlock = some b) : k.B0 ≤ b ∧ ∃ cs, w.heap[b]? = some (.cells cs 74 (0, 0)) := by
  rcases h with ⟨rfl, rfl⟩ | ⟨lb, cap, f, rfl, h1, _, _, ⟨c, hc, _⟩, _⟩
  · simp [Value.ownBlock] at hb
  · simp [Value.ownBlock] at hb
    subst hb
    exact ⟨h1, c, hc⟩

/-- A NEW LEVEL. -/
theorem Inv.add {ord' : List Nat} {g : List Nat} {lv' : Value} {n' : Nat} {W : World} (h : Inv k ord gone sf pv nx gs lbs lv w) (hp : Book.PInv k.bids k.n k.P ord' gone pv nx (gs ++ [g]))
    (hg : ((w.alloc (.cells (lvlC k g) 76 (0, 0))).alloc (.cells #[.pointer (some ⟨w.heap.size, 0, none⟩)] 74 (0, 0))).grownBy W lv.ownBlock)
    (ho : W.ownsRow k.B0 74 1 lv' n' ((lbs.map fun b => .pointer (some ⟨b, 0, none⟩)) ++ [.pointer (some ⟨w.heap.size, 0, none⟩)])) :
    Inv k ord' gone sf pv nx (gs ++ [g]) (lbs ++ [w.heap.size]) lv' (W.setCell ⟨k.kb, k.off + 1, none⟩ lv') ∧ Fr k.B0 w (W.setCell ⟨k.kb, k.off + 1, none⟩ lv') := by
  have hkb := lt_of_block h.book
  have hold : ∀ b, b < w.heap.size → some b ≠ lv.ownBlock → W.heap[b]? = w.heap[b]? := fun b hb hne => (hg.block b (by simp; omega) hne).trans ((blk_alloc_lt (by simp; omega)).trans (blk_alloc_lt hb))
  have hty : ∀ {b : Nat} {cs : Array Value} {t : TypeId}, w.heap[b]? = some (.cells cs t (0, 0)) → t ≠ 74 → some b ≠ lv.ownBlock := fun hb ht e => by
    obtain ⟨_, cs, hc⟩ := h.lev.type e.symm
    rw [hb] at hc
    simp at hc
    exact ht hc.2
  have hbk : W.heap[k.kb]? = some (.cells (bookC k lv) 72 (0, 0)) := (hold _ hkb (hty h.book (by decide))).trans h.book
  have hnew : ∀ {b : Nat} {cs : Array Value} {t : TypeId}, w.heap[b]? = some (.cells cs t (0, 0)) → t ≠ 74 → t ≠ 72 → (W.setCell ⟨k.kb, k.off + 1, none⟩ lv').heap[b]? = some (.cells cs t (0, 0)) := fun hb h1 h2 =>
    (blk_set_ne (ne_of_type hb h.book h2)).trans ((hold _ (lt_of_block hb) (hty hb h1)).trans hb)
  have hL : W.heap[w.heap.size]? = some (.cells (lvlC k g) 76 (0, 0)) := (hg.block _ (by simp; omega) (fun e => by
    obtain ⟨_, cs, hc⟩ := h.lev.type e.symm
    have := lt_of_block hc
    omega)).trans ((blk_alloc_lt (by simp)).trans blk_alloc_new)
  have hlev : LevIs k W lv' (lbs ++ [w.heap.size]) := own_lev (n := n') (by simpa using ho)
  have hlt : ∀ b, b ∈ lbs → b < w.heap.size := fun b hb => by
    obtain ⟨j, hj, rfl⟩ := List.mem_iff_getElem.1 hb
    have := lt_of_block (h.lvl j (by rw [← h.len]; exact hj))
    simpa [hj] using this
  refine ⟨⟨h.base1, h.base2, ?_, ?_, by simp [h.len], ?_, ?_, ?_, fun i hi => hnew (h.ords i hi) (by decide) (by decide), hp⟩, ?_⟩
  · rw [blk_set hbk, book_set]
  · rcases hlev with ⟨e, _⟩ | ⟨lb, cap, f, h1, h2, h3, h4, h5, h6⟩
    · simp at e
    · refine .inr ⟨lb, cap, f, h1, h2, h3, h4, h5.setOther ?_ _, h6⟩
      obtain ⟨c, hc, _⟩ := h5
      exact ne_of_type hc hbk (by decide)
  · intro j hj
    have hj' : j < gs.length + 1 := by simpa using hj
    by_cases e : j < gs.length
    · have e1 : (lbs ++ [w.heap.size]).getD j 0 = lbs.getD j 0 := by simp [List.getElem?_append_left, h.len, e]
      have e2 : (gs ++ [g]).getD j [] = gs.getD j [] := by simp [List.getElem?_append_left, e]
      rw [e1, e2]
      exact hnew (h.lvl j e) (by decide) (by decide)
    · obtain rfl : j = gs.length := by omega
      have e1 : (lbs ++ [w.heap.size]).getD gs.length 0 = w.heap.size := by rw [← h.len]; simp
      have e2 : (gs ++ [g]).getD gs.length [] = g := by simp
      rw [e1, e2]
      exact (blk_set_ne (by simp; omega)).trans hL
  · intro b hb
    rcases List.mem_append.1 hb with hb | hb
    · exact h.baseL b hb
    · simp at hb
      have := h.base1
      omega
  · refine List.nodup_append.2 ⟨h.nodL, by simp, fun a ha b hb => ?_⟩
    simp at hb
    have := hlt a ha
    omega
  · refine Fr.of_kp (S := fun b => some b = lv.ownBlock ∨ b = k.kb) ⟨hg.os, hg.tape, hg.output, ?_, fun b hb hs => ?_⟩ ?_
    · have := hg.size
      simp [World.setCell] at *
      omega
    · exact (blk_set_ne (fun e => hs (.inr e))).trans (hold b hb (fun e => hs (.inl e)))
    · rintro b hb (e | e)
      · obtain ⟨h1, cs, h2⟩ := h.lev.type e.symm
        exact ⟨h1, cs, 74, h2, by simp⟩
      · subst e
        exact ⟨h.base1, _, 72, h.book, by simp⟩

set_option maxHeartbeats 800000 in
set_option maxRecDepth 100000 in
theorem addLevel_any (g : List Nat) (ord' : List Nat) (h : Inv k ord gone sf pv nx gs lbs lv w) (hp : Book.PInv k.bids k.n k.P ord' gone pv nx (gs ++ [g])) (hl : lbs.length ≤ 4096) :
    Calls Try.prog 21 #[.pointer (some ⟨k.kb, 0, none⟩), .int .u8 k.s, .int .i64 (k.P (g.headD 0)), k.ptr g.head?, k.ptr g.getLast?] w fun e w' => e = .returned (.tuple #[]) ∧ (∃ lbs' lv', Inv k ord' gone sf pv nx (gs ++ [g]) lbs' lv' w') ∧ Fr k.B0 w w' := by
  obtain ⟨i0, hi0, hz0, hz1, hz2⟩ := info_parts Try.info74
  obtain ⟨op, cap, rfl, hop⟩ := h.lev.shape
  obtain ⟨_, c1, f1⟩ := book_cells h.book
  have HO := hid (lev_own h.lev)
  have HA := hid (fun (W : World) lv' n' => h.add (W := W) (lv' := lv') (n' := n') hp)
  have hkb := lt_of_block h.book
  have hB : k.B0 ≤ w.heap.size := by have := h.base1; omega
  have HOFF := hid (show offOf k.s = k.off from rfl)
  have HL := hid h.lev
  have HBK := hid h.book
  have HSB : Hid (∀ W, ((w.alloc (.cells (lvlC k g) 76 (0, 0))).alloc (.cells #[.pointer (some ⟨w.heap.size, 0, none⟩)] 74 (0, 0))).grownBy W (Value.slice op lbs.length cap).ownBlock → W.cell? ⟨k.kb, k.off + 1, none⟩ = some (.slice op lbs.length cap) ∧ W.frozen? ⟨k.kb, k.off + 1, none⟩ = false) := fun W hg => by
    have e : W.heap[k.kb]? = w.heap[k.kb]? := (hg.block _ (by simp; omega) (fun e => by
      obtain ⟨_, cs, hc⟩ := HL.out.type e.symm
      exact ne_of_type HBK.out hc (by decide) rfl)).trans ((blk_alloc_lt (by simp; omega)).trans (blk_alloc_lt hkb))
    exact ⟨(World.cell?_of_block (a := ⟨k.kb, k.off + 1, none⟩) e).trans c1, (World.frozen?_of_block (a := ⟨k.kb, k.off + 1, none⟩) e).trans f1⟩
  unfold lvlC at HA HSB
  unfold Cfg.ptr at HA HSB ⊢
  generalize hN : lbs.length = N at *
  generalize k.P (g.headD 0) = pr at *
  generalize Option.map (fun i => (⟨k.c + i, 0, none⟩ : Addr)) g.head? = ph at *
  generalize Option.map (fun i => (⟨k.c + i, 0, none⟩ : Addr)) g.getLast? = pt at *
  clear h hp hN
  go_enter Try.func21, Try.ntmps21
  go_wp2_with (first | (go_at_call 22; refine (ladder_any k.kb k.s _).mono ?_; rintro e w' ⟨rfl, hw⟩; have hw := hw.symm; subst hw; rw [HOFF.out]) | (at_builtin; (refine wpList_append_lies _ rfl (.tmp 18) (.tmp 24) 68 rfl k.B0 74 i0 (.pointer none) 1 8 Try.underlying68 hi0 hz0 hz1 hz2 rfl (by decide) (.slice op N cap) N _ rfl ((HO.out.alloc _).alloc _) ⟨w.heap.size + 1, 0, none⟩ 1 1 [.pointer (some ⟨w.heap.size, 0, none⟩)] rfl rfl (World.news_of_block (cs := #[.pointer (some ⟨w.heap.size, 0, none⟩)]) (t := 74) (fr := (0, 0)) (blk_two _ _ _)) (by simp [Value.oneCell']) (by decide) (by unfold maxLen; omega) (by omega) (by simp; omega) (w.heap.size + 2) (by simp) ?_; intro gg cap2 w2 hown2 hgrow2 hat hlt2; obtain ⟨c2, f2⟩ := HSB.out _ hgrow2; have HG := hid hgrow2; have HW := hid hown2; clear hgrow2 hown2 hat)))
  go_end0
  obtain ⟨r1, r2⟩ := HA.out _ _ _ HG.out HW.out
  exact ⟨rfl, ⟨_, _, r1⟩, r2⟩

end Go.Proofs.Qxb6612266a
