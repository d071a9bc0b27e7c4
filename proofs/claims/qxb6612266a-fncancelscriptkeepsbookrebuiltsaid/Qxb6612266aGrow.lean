/-
  PLAIN: the ladder as zzBuildBook lays it, group by group; and the same of the invariant in memory.
-/
import Derived.Test.Qxb6612266aAdd
namespace Go.Proofs.Qxb6612266a.Book
set_option linter.unusedSimpArgs false

/-- Ahead of a group. -/
structure Out (bids : Bool) (n : Nat) (P : Nat → Int) (A R : List Nat) (pv nx : Nat → Option Nat) (gs : List (List Nat)) : Prop where
  pinv : PInv bids n P A (fun _ => false) pv nx gs
  free : ∀ i, i ∈ R → pv i = none ∧ nx i = none
  sep : ∀ x, x ∈ A → ∀ y, y ∈ R → wr bids (P x) (P y)

/-- Within a group. -/
structure Mid (bids : Bool) (n : Nat) (P : Nat → Int) (A g R : List Nat) (pv nx : Nat → Option Nat) (gs : List (List Nat)) : Prop where
  pinv : PInv bids n P A (fun _ => false) pv nx gs
  free : ∀ i, i ∈ R → pv i = none ∧ nx i = none
  sep : ∀ x, x ∈ A → ∀ y, y ∈ g ++ R → wr bids (P x) (P y)
  chain : Chain pv nx none g
  one : ∀ i, i ∈ g → P i = P (g.headD 0)

variable {bids : Bool} {n : Nat} {P : Nat → Int} {A g R : List Nat} {pv nx : Nat → Option Nat} {gs : List (List Nat)}

theorem all_alive (A : List Nat) : A.filter (fun i => !((fun _ => false) i : Bool)) = A := List.filter_eq_self.2 (by simp)

theorem flat_eq (h : PInv bids n P A (fun _ => false) pv nx gs) : gs.flatten = A := by
  have := h.alive
  rw [all_alive] at this
  exact this.symm

theorem Out.first : Out bids n P [] R (fun _ => none) (fun _ => none) [] :=
  ⟨⟨by simp, by simp, by simp, List.Pairwise.nil, by simp, by simp, by simp, by simp⟩, fun _ _ => ⟨rfl, rfl⟩, by simp⟩

theorem Out.mid {x : Nat} (h : Out bids n P A (x :: R) pv nx gs) : Mid bids n P A [x] R pv nx gs :=
  ⟨h.pinv, fun i hi => h.free i (by simp [hi]), fun a ha y hy => h.sep a ha y (by simpa using hy), ⟨(h.free x (by simp)).1, (h.free x (by simp)).2, trivial⟩, by simp⟩

theorem chain_snoc {pv nx : Nat → Option Nat} {a y : Nat} : ∀ (g : List Nat) (p : Option Nat), g.getLast? = some a → Chain pv nx p g → g.Nodup → y ∉ g → nx y = none →
    Chain (fun i => if i = y then some a else pv i) (fun i => if i = a then some y else nx i) p (g ++ [y])
  | [], _, h, _, _, _, _ => by simp at h
  | [b], p, h, ⟨h1, _, _⟩, _, hy, hn => by
    simp at h
    subst h
    have hb : ¬ b = y := fun e => hy (by simp [e])
    have hb' : ¬ y = b := fun e => hb e.symm
    refine ⟨by simp [hb, h1], by simp, by simp, by simp [hb', hn], trivial⟩
  | b :: c :: r, p, h, ⟨h1, h2, h3⟩, hd, hy, hn => by
    have hb : ¬ b = y := fun e => hy (by simp [e])
    have hba : ¬ b = a := fun e => by
      have : a ∈ c :: r := List.mem_of_getLast? (by simpa [List.getLast?_cons_cons] using h)
      rw [← e] at this
      exact (List.nodup_cons.1 hd).1 this
    refine ⟨by simp [hb, h1], by simp [hba, h2], ?_⟩
    exact chain_snoc (c :: r) (some b) (by simpa [List.getLast?_cons_cons] using h) h3 (List.nodup_cons.1 hd).2 (fun e => hy (List.mem_cons_of_mem _ e)) hn

theorem Mid.step {a y : Nat} (h : Mid bids n P A g (y :: R) pv nx gs) (hd : (A ++ (g ++ y :: R)).Nodup) (hp : P y = P (g.headD 0)) (ha : g.getLast? = some a) :
    Mid bids n P A (g ++ [y]) R (fun i => if i = y then some a else pv i) (fun i => if i = a then some y else nx i) gs := by
  obtain ⟨d1, d2, d3⟩ := List.nodup_append.1 hd
  obtain ⟨d4, d5, d6⟩ := List.nodup_append.1 d2
  have hag : a ∈ g := List.mem_of_getLast? ha
  have hyg : y ∉ g := fun e => d6 y e y (by simp) rfl
  have hyR : y ∉ R := (List.nodup_cons.1 d5).1
  have hne : g ≠ [] := fun e => by simp [e] at hag
  have hh : (g ++ [y]).headD 0 = g.headD 0 := by cases g <;> simp_all
  refine ⟨⟨h.pinv.ne, h.pinv.one, fun g' hg' => ?_, h.pinv.sorted, h.pinv.nodup, h.pinv.lt, by simp, h.pinv.alive⟩, fun i hi => ?_, fun x hx z hz => h.sep x hx z (by simpa using hz), chain_snoc g none ha h.chain d4 hyg (h.free y (by simp)).2, fun i hi => ?_⟩
  · refine chain_congr g' none (fun i hi => ?_) (h.pinv.chain g' hg')
    have hiA : i ∈ A := by rw [← flat_eq h.pinv]; exact List.mem_flatten.2 ⟨g', hg', hi⟩
    have e1 : ¬ i = y := fun e => d3 i hiA y (by simp) e
    have e2 : ¬ i = a := fun e => d3 i hiA a (by simp [hag]) e
    simp [e1, e2]
  · have e1 : ¬ i = y := fun e => hyR (by rw [← e]; exact hi)
    have e2 : ¬ i = a := fun e => d6 a hag i (by simp [hi]) e.symm
    simp [e1, e2]
    exact h.free i (by simp [hi])
  · rw [hh]
    rcases List.mem_append.1 hi with hi | hi
    · exact h.one i hi
    · simp at hi
      rw [hi, hp]

theorem wr_of {p q : Int} (h : wrB bids q p = false) (hne : q ≠ p) : wr bids p q := by
  unfold wrB at h
  unfold wr
  cases bids <;> simp_all <;> omega
theorem wr_le {p q r : Int} (h1 : wr bids p q) (h2 : wrB bids r q = false) : wr bids p r := by
  unfold wrB at h2
  unfold wr at *
  cases bids <;> simp_all <;> omega

theorem Mid.out (h : Mid bids n P A g R pv nx gs) (hne : g ≠ []) (hd : (A ++ (g ++ R)).Nodup) (hlt : ∀ x, x ∈ A ++ (g ++ R) → x < n) (hs : SortedO bids P (A ++ (g ++ R))) (hr : R = [] ∨ P (R.headD 0) ≠ P (g.headD 0)) :
    Out bids n P (A ++ g) R pv nx (gs ++ [g]) := by
  have hfl : (gs ++ [g]).flatten = A ++ g := by simp [flat_eq h.pinv]
  have hgm : g.headD 0 ∈ g := by cases g <;> simp_all
  obtain ⟨d1, d2, d3⟩ := List.nodup_append.1 hd
  obtain ⟨d4, d5, d6⟩ := List.nodup_append.1 d2
  obtain ⟨_, s2, _⟩ := List.pairwise_append.1 hs
  obtain ⟨_, s5, s6⟩ := List.pairwise_append.1 s2
  refine ⟨⟨?_, ?_, ?_, ?_, ?_, ?_, by simp, by rw [hfl, all_alive]⟩, h.free, ?_⟩
  · intro g' hg'
    rcases List.mem_append.1 hg' with e | e
    · exact h.pinv.ne g' e
    · simp at e; rw [e]; exact hne
  · intro g' hg'
    rcases List.mem_append.1 hg' with e | e
    · exact h.pinv.one g' e
    · simp at e; rw [e]; exact h.one
  · intro g' hg'
    rcases List.mem_append.1 hg' with e | e
    · exact h.pinv.chain g' e
    · simp at e; rw [e]; exact h.chain
  · refine List.pairwise_append.2 ⟨h.pinv.sorted, by simp, fun g' hg' g'' hg'' => ?_⟩
    simp at hg''
    rw [hg'']
    have hg0 := h.pinv.ne g' hg'
    refine h.sep _ ?_ _ (List.mem_append_left _ hgm)
    rw [← flat_eq h.pinv]
    exact List.mem_flatten.2 ⟨g', hg', by cases g' <;> simp_all⟩
  · rw [hfl]
    refine List.nodup_append.2 ⟨d1, d4, fun x hx y hy => d3 x hx y (by simp [hy])⟩
  · rw [hfl]
    intro i hi
    refine hlt i ?_
    rcases List.mem_append.1 hi with e | e
    · exact List.mem_append_left _ e
    · exact List.mem_append_right _ (List.mem_append_left _ e)
  · intro x hx y hy
    rcases List.mem_append.1 hx with hx | hx
    · exact h.sep x hx y (by simp [hy])
    · rw [h.one x hx]
      cases R with
      | nil => simp at hy
      | cons r R' =>
        have hr' : P r ≠ P (g.headD 0) := by simpa using hr
        have w1 : wr bids (P (g.headD 0)) (P r) := wr_of (s6 _ hgm r (by simp)) hr'
        rcases List.mem_cons.1 hy with e | e
        · rw [e]; exact w1
        · exact wr_le w1 ((List.pairwise_cons.1 s5).1 y e)
end Go.Proofs.Qxb6612266a.Book

namespace Go.Proofs.Qxb6612266a
open Go.RowKit

variable {k : Cfg} {ord : List Nat} {gone sf : Nat → Bool} {pv nx : Nat → Option Nat} {gs : List (List Nat)} {lbs : List Nat} {lv : Value} {w : World}

theorem Inv.link {a y : Nat} (h : Inv k ord gone sf pv nx gs lbs lv w) (ha : a < k.n) (hy : y < k.n) (hne : a ≠ y) (hp : Book.PInv k.bids k.n k.P ord gone (fun i => if i = y then some a else pv i) (fun i => if i = a then some y else nx i) gs) :
    Inv k ord gone sf (fun i => if i = y then some a else pv i) (fun i => if i = a then some y else nx i) gs lbs lv ((w.setCell ⟨k.c + a, 16, none⟩ (.pointer (some ⟨k.c + y, 0, none⟩))).setCell ⟨k.c + y, 15, none⟩ (.pointer (some ⟨k.c + a, 0, none⟩))) ∧
    Fr k.B0 w ((w.setCell ⟨k.c + a, 16, none⟩ (.pointer (some ⟨k.c + y, 0, none⟩))).setCell ⟨k.c + y, 15, none⟩ (.pointer (some ⟨k.c + a, 0, none⟩))) := by
  have hA := h.ords a ha
  have hY := h.ords y hy
  have hnew : ∀ {b : Nat} {cs : Array Value} {t : TypeId}, w.heap[b]? = some (.cells cs t (0, 0)) → t ≠ 47 → ((w.setCell ⟨k.c + a, 16, none⟩ (.pointer (some ⟨k.c + y, 0, none⟩))).setCell ⟨k.c + y, 15, none⟩ (.pointer (some ⟨k.c + a, 0, none⟩))).heap[b]? = some (.cells cs t (0, 0)) := fun hb ht =>
    (blk_set_ne (ne_of_type hb hY ht)).trans ((blk_set_ne (ne_of_type hb hA ht)).trans hb)
  refine ⟨⟨h.base1, h.base2, hnew h.book (by decide), ?_, h.len, fun j hj => hnew (h.lvl j hj) (by decide), h.baseL, h.nodL, fun i hi => ?_, hp⟩, ?_⟩
  · rcases h.lev with l | ⟨lb, cap, f, h1, h2, h3, h4, h5, h6⟩
    · exact .inl l
    · have h5' := h5
      obtain ⟨c, hc, _⟩ := h5'
      exact .inr ⟨lb, cap, f, h1, h2, h3, h4, (h5.setOther (a := ⟨k.c + a, 16, none⟩) (ne_of_type hc hA (by decide)) _).setOther (a := ⟨k.c + y, 15, none⟩) (ne_of_type hc hY (by decide)) _, h6⟩
  · by_cases e1 : i = y
    · subst e1
      rw [hs_same, blk_set_ne (by simp; omega), hY]
      have : ¬ i = a := fun e => hne e.symm
      simp only [Option.map_some, objSet, if_true, if_neg this]
      rfl
    · rw [blk_set_ne (by simp; omega)]
      by_cases e2 : i = a
      · subst e2
        rw [hs_same, hA]
        simp only [Option.map_some, objSet, if_true, if_neg e1]
        rfl
      · rw [blk_set_ne (by simp; omega), h.ords i hi]
        simp only [if_neg e1, if_neg e2]
  · refine Fr.of_kp (S := fun b => b = k.c + a ∨ b = k.c + y) (((Kp.refl _ w).setCell _ (.inl rfl)).setCell _ (.inr rfl)) ?_
    rintro b hb (e | e)
    · subst e
      exact ⟨by have := h.base2; omega, _, 47, hA, by simp⟩
    · subst e
      exact ⟨by have := h.base2; omega, _, 47, hY, by simp⟩

/-- ZZlink, of two orders of the book's. -/
theorem link20 {a y : Nat} (h : Inv k ord gone sf pv nx gs lbs lv w) (ha : a < k.n) (hy : y < k.n) (hne : a ≠ y) (hp : Book.PInv k.bids k.n k.P ord gone (fun i => if i = y then some a else pv i) (fun i => if i = a then some y else nx i) gs) :
    Calls Try.prog 20 #[.pointer (some ⟨k.c + a, 0, none⟩), .pointer (some ⟨k.c + y, 0, none⟩)] w fun e w' => e = .returned (.tuple #[]) ∧ Inv k ord gone sf (fun i => if i = y then some a else pv i) (fun i => if i = a then some y else nx i) gs lbs lv w' ∧ Fr k.B0 w w' := by
  obtain ⟨c1, f1⟩ := cf (i := 16) (h.ords a ha)
  obtain ⟨c2, f2⟩ := cf (i := 15) (h.ords y hy)
  refine (link_any (k.c + a) (k.c + y) w _ _ c1 c2 f1 f2 (by omega)).mono ?_
  rintro e w' ⟨rfl, rfl⟩
  exact ⟨rfl, h.link ha hy hne hp⟩

/-- The invariant when nothing is laid yet but the orders. -/
theorem Inv.none (h0 : k.B0 ≤ k.kb) (hc : k.B0 ≤ k.c) (hb : w.heap[k.kb]? = some (.cells (bookC k (.slice none 0 0)) 72 (0, 0))) (ho : ∀ t, t < k.n → w.heap[k.c + t]? = some (.cells (ordC k false none none t) 47 (0, 0))) :
    Inv k [] (fun _ => false) (fun _ => false) (fun _ => Option.none) (fun _ => Option.none) [] [] (.slice Option.none 0 0) w :=
  ⟨h0, hc, hb, .inl ⟨rfl, rfl⟩, rfl, fun j hj => by simp at hj, by simp, List.nodup_nil, ho, (Book.Out.first (R := [])).pinv⟩
end Go.Proofs.Qxb6612266a
