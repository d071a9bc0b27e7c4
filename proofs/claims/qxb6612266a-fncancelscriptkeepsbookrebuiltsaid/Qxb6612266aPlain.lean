/-
  PLAIN LAWS of the order book's ladder (no Go in sight): groups of orders, worst price first; each group a doubly linked chain; what taking one order out does.
-/
namespace Go.Proofs.Qxb6612266a.Book

/-- The chain: each one's 'pv' is the one ahead of it, its 'nx' the one behind it. -/
def Chain (pv nx : Nat → Option Nat) : Option Nat → List Nat → Prop
  | _, [] => True
  | p, a :: r => pv a = p ∧ nx a = r.head? ∧ Chain pv nx (some a) r

theorem chain_congr {pv nx pv' nx' : Nat → Option Nat} : ∀ (g : List Nat) (p : Option Nat), (∀ i, i ∈ g → pv' i = pv i ∧ nx' i = nx i) → Chain pv nx p g → Chain pv' nx' p g
  | [], _, _, _ => trivial
  | a :: r, p, h, ⟨h1, h2, h3⟩ => ⟨(h a (by simp)).1.trans h1, (h a (by simp)).2.trans h2, chain_congr r (some a) (fun i hi => h i (by simp [hi])) h3⟩

/-- What the chain says of one in its midst. -/
theorem chain_mid {pv nx : Nat → Option Nat} {k : Nat} {Y : List Nat} : ∀ (X : List Nat) (p : Option Nat), Chain pv nx p (X ++ k :: Y) → pv k = (X.getLast?).or p ∧ nx k = Y.head?
  | [], p, ⟨h1, h2, _⟩ => ⟨by simpa using h1, h2⟩
  | a :: X, p, ⟨_, _, h3⟩ => by
    obtain ⟨h4, h5⟩ := chain_mid X (some a) h3
    refine ⟨?_, h5⟩
    rw [h4]
    cases X with
    | nil => simp
    | cons b X => simp [List.getLast?_cons]

/-- The links behind the taking out of k. -/
def pvR (pv nx : Nat → Option Nat) (k : Nat) : Nat → Option Nat := fun i => if i = k then none else if nx k = some i then pv k else pv i
def nxR (pv nx : Nat → Option Nat) (k : Nat) : Nat → Option Nat := fun i => if i = k then none else if pv k = some i then nx k else nx i

theorem chain_remove {pv nx : Nat → Option Nat} {k : Nat} {Y : List Nat} : ∀ (X : List Nat) (p : Option Nat), Chain pv nx p (X ++ k :: Y) → (X ++ k :: Y).Nodup → (∀ q, p = some q → q ∉ X ++ k :: Y) →
    Chain (pvR pv nx k) (nxR pv nx k) p (X ++ Y)
  | [], p, h, hn, hp => by
    obtain ⟨h1, h2, h3⟩ := h
    have hkY : k ∉ Y := by simp at hn; exact hn.1
    cases Y with
    | nil => trivial
    | cons b r =>
      simp at h2
      obtain ⟨h4, h5, h6⟩ := h3
      have hbk : b ≠ k := fun e => hkY (by simp [e])
      have hbr : b ∉ r := by simp at hn; exact hn.2.1
      refine ⟨by simp [pvR, hbk, h2, h1], ?_, chain_congr r (some b) (fun i hi => ?_) h6⟩
      · have : ¬ pv k = some b := fun e => hp b (by rw [← h1, e]) (by simp)
        simp [nxR, hbk, this, h5]
      · have hik : i ≠ k := fun e => hkY (by simp [← e, hi])
        have hib : ¬ b = i := fun e => hbr (by rw [e]; exact hi)
        have hip : ¬ pv k = some i := fun e => hp i (by rw [← h1, e]) (by simp [hi])
        simp [pvR, nxR, hik, h2, hib, hip]
  | a :: X, p, h, hn, hp => by
    obtain ⟨h1, h2, h3⟩ := h
    have hn' : (X ++ k :: Y).Nodup ∧ a ∉ X ++ k :: Y := by
      simp only [List.cons_append, List.nodup_cons] at hn
      exact ⟨hn.2, hn.1⟩
    obtain ⟨m1, m2⟩ := chain_mid X (some a) h3
    have hak : a ≠ k := fun e => hn'.2 (by simp [e])
    have haY : a ∉ Y := fun e => hn'.2 (by simp [e])
    have haX : a ∉ X := fun e => hn'.2 (by simp [e])
    refine ⟨?_, ?_, chain_remove X (some a) h3 hn'.1 (fun q hq => by simp at hq; rw [← hq]; exact hn'.2)⟩
    · have : ¬ nx k = some a := fun e => by
        rw [m2] at e
        exact haY (List.mem_of_mem_head? e)
      simp [pvR, hak, this, h1]
    · cases X with
      | nil =>
        have : pv k = some a := by rw [m1]; simp
        simp [nxR, hak, this, m2]
      | cons b X =>
        have h4 : pv k = (b :: X).getLast? := by rw [m1]; simp [List.getLast?_cons]
        have : ¬ pv k = some a := fun e => by
          rw [h4] at e
          exact haX (List.mem_of_getLast? e)
        show nxR pv nx k a = _
        simp only [nxR, hak, this, if_false]
        rw [h2]
        simp

/-- Strictly worse on the side. -/
def wr (bids : Bool) (p q : Int) : Prop := if bids then p < q else q < p

/-- The pure part of the ladder's invariant. -/
structure PInv (bids : Bool) (n : Nat) (P : Nat → Int) (ord : List Nat) (gone : Nat → Bool) (pv nx : Nat → Option Nat) (gs : List (List Nat)) : Prop where
  ne : ∀ g, g ∈ gs → g ≠ []
  one : ∀ g, g ∈ gs → ∀ i, i ∈ g → P i = P (g.headD 0)
  chain : ∀ g, g ∈ gs → Chain pv nx none g
  sorted : gs.Pairwise (fun g g' => wr bids (P (g.headD 0)) (P (g'.headD 0)))
  nodup : gs.flatten.Nodup
  lt : ∀ i, i ∈ gs.flatten → i < n
  gonE : ∀ i, gone i = true → pv i = none ∧ nx i = none
  alive : ord.filter (fun i => !gone i) = gs.flatten

/-- One that is alive lies in the midst of one group. -/
theorem find_group {k : Nat} {gs : List (List Nat)} (h : k ∈ gs.flatten) : ∃ G1 X Y G2, gs = G1 ++ (X ++ k :: Y) :: G2 := by
  obtain ⟨g, hg, hk⟩ := List.mem_flatten.1 h
  obtain ⟨G1, G2, rfl⟩ := List.append_of_mem hg
  obtain ⟨X, Y, rfl⟩ := List.append_of_mem hk
  exact ⟨G1, X, Y, G2, rfl⟩

/-- The groups behind the taking out of one. -/
def remG (G1 : List (List Nat)) (X Y : List Nat) (G2 : List (List Nat)) : List (List Nat) := if X ++ Y = [] then G1 ++ G2 else G1 ++ (X ++ Y) :: G2

theorem remG_flatten (G1 : List (List Nat)) (X Y : List Nat) (G2 : List (List Nat)) : (remG G1 X Y G2).flatten = G1.flatten ++ (X ++ (Y ++ G2.flatten)) := by
  unfold remG
  split
  · rename_i h
    simp at h
    simp [h.1, h.2]
  · simp

theorem mem_remG {G1 : List (List Nat)} {X Y : List Nat} {G2 : List (List Nat)} {g : List Nat} (h : g ∈ remG G1 X Y G2) : (g ∈ G1 ∨ g ∈ G2) ∨ (g = X ++ Y ∧ X ++ Y ≠ []) := by
  unfold remG at h
  split at h
  · exact .inl (by simpa using h)
  · rename_i hne
    rcases List.mem_append.1 h with h | h
    · exact .inl (.inl h)
    · rcases List.mem_cons.1 h with h | h
      · exact .inr ⟨h, hne⟩
      · exact .inl (.inr h)

theorem mem_ins {i k : Nat} {X Y : List Nat} (h : i ∈ X ++ Y) : i ∈ X ++ k :: Y := by
  rw [List.mem_append] at h
  rw [List.mem_append, List.mem_cons]
  rcases h with a | a
  · exact .inl a
  · exact .inr (.inr a)

theorem headD_mem {g : List Nat} (h : g ≠ []) : g.headD 0 ∈ g := by
  cases g with
  | nil => exact absurd rfl h
  | cons a r => simp

/-- TAKING ONE OUT keeps the pure invariant. -/
theorem PInv.remove {bids : Bool} {n : Nat} {P : Nat → Int} {ord : List Nat} {gone : Nat → Bool} {pv nx : Nat → Option Nat} {G1 : List (List Nat)} {X : List Nat} {k : Nat} {Y : List Nat} {G2 : List (List Nat)}
    (h : PInv bids n P ord gone pv nx (G1 ++ (X ++ k :: Y) :: G2)) :
    PInv bids n P ord (fun i => if i = k then true else gone i) (pvR pv nx k) (nxR pv nx k) (remG G1 X Y G2) := by
  have hfl : (G1 ++ (X ++ k :: Y) :: G2).flatten = G1.flatten ++ (X ++ k :: (Y ++ G2.flatten)) := by simp
  have hnd := h.nodup
  rw [hfl] at hnd
  have hng : (X ++ k :: Y).Nodup := by
    have e : X ++ k :: (Y ++ G2.flatten) = (X ++ k :: Y) ++ G2.flatten := by simp
    have h2 := (List.nodup_append.1 hnd).2.1
    rw [e] at h2
    exact (List.nodup_append.1 h2).1
  have hch := h.chain (X ++ k :: Y) (by simp)
  obtain ⟨mp, mn⟩ := chain_mid X none hch
  have mp' : pv k = X.getLast? := by rw [mp]; simp
  have hk1 : k ∉ G1.flatten := fun e => by
    have := List.nodup_append.1 hnd
    exact this.2.2 k e k (by simp) rfl
  have hnd2 := (List.nodup_append.1 hnd).2.1
  have hkX : k ∉ X := fun e => (List.nodup_append.1 hnd2).2.2 k e k (by simp) rfl
  have hk2 : k ∉ Y ++ G2.flatten := (List.nodup_cons.1 (List.nodup_append.1 hnd2).2.1).1
  -- a group of another place holds neither k nor its neighbours
  have hdis : ∀ g, g ∈ G1 ∨ g ∈ G2 → ∀ i, i ∈ g → i ∉ X ++ k :: Y := by
    intro g hg i hi hmem
    rcases hg with hg | hg
    · have h1 : i ∈ G1.flatten := List.mem_flatten.2 ⟨g, hg, hi⟩
      refine (List.nodup_append.1 hnd).2.2 i h1 i ?_ rfl
      rw [List.mem_append, List.mem_cons] at hmem
      rw [List.mem_append, List.mem_cons, List.mem_append]
      rcases hmem with a | a | a
      · exact .inl a
      · exact .inr (.inl a)
      · exact .inr (.inr (.inl a))
    · have h1 : i ∈ G2.flatten := List.mem_flatten.2 ⟨g, hg, hi⟩
      have h2 : (X ++ k :: Y ++ G2.flatten).Nodup := by
        have e : X ++ k :: Y ++ G2.flatten = X ++ k :: (Y ++ G2.flatten) := by simp
        rw [e]; exact hnd2
      exact (List.nodup_append.1 h2).2.2 i hmem i h1 rfl
  have hcg : ∀ g, g ∈ G1 ∨ g ∈ G2 → ∀ i, i ∈ g → pvR pv nx k i = pv i ∧ nxR pv nx k i = nx i := by
    intro g hg i hi
    have hm := hdis g hg i hi
    have h1 : i ≠ k := fun e => hm (by simp [e])
    have h2 : ¬ nx k = some i := fun e => by rw [mn] at e; exact hm (by simp [List.mem_of_mem_head? e])
    have h3 : ¬ pv k = some i := fun e => by rw [mp'] at e; exact hm (by simp [List.mem_of_getLast? e])
    simp [pvR, nxR, h1, h2, h3]
  have hold : ∀ g, g ∈ G1 ∨ g ∈ G2 → g ∈ G1 ++ (X ++ k :: Y) :: G2 := by
    intro g hg
    rcases hg with hg | hg
    · simp [hg]
    · simp [hg]
  have hone : ∀ i, i ∈ X ++ k :: Y → P i = P ((X ++ k :: Y).headD 0) := h.one _ (by simp)
  have hhd : X ++ Y ≠ [] → P ((X ++ Y).headD 0) = P ((X ++ k :: Y).headD 0) := fun hne => hone _ (mem_ins (headD_mem hne))
  refine ⟨?_, ?_, ?_, ?_, ?_, ?_, ?_, ?_⟩
  · intro g hg
    rcases mem_remG hg with hg | ⟨rfl, hne⟩
    · exact h.ne g (hold g hg)
    · exact hne
  · intro g hg i hi
    rcases mem_remG hg with hg | ⟨rfl, hne⟩
    · exact h.one g (hold g hg) i hi
    · rw [hhd hne]
      exact hone i (mem_ins hi)
  · intro g hg
    rcases mem_remG hg with hg | ⟨rfl, hne⟩
    · exact chain_congr g none (hcg g hg) (h.chain g (hold g hg))
    · exact chain_remove X none hch hng (fun q hq => by cases hq)
  · have hs := h.sorted
    rw [List.pairwise_append, List.pairwise_cons] at hs
    obtain ⟨s1, ⟨s2, s3⟩, s4⟩ := hs
    unfold remG
    split
    · rw [List.pairwise_append]
      exact ⟨s1, s3, fun a ha b hb => s4 a ha b (by simp [hb])⟩
    · rename_i hne
      rw [List.pairwise_append, List.pairwise_cons]
      refine ⟨s1, ⟨fun b hb => by rw [hhd hne]; exact s2 b hb, s3⟩, fun a ha b hb => ?_⟩
      rcases List.mem_cons.1 hb with rfl | hb
      · rw [hhd hne]; exact s4 a ha (X ++ k :: Y) (by simp)
      · exact s4 a ha b (by simp [hb])
  · rw [remG_flatten]
    refine List.nodup_append.2 ⟨(List.nodup_append.1 hnd).1, ?_, ?_⟩
    · have h2 := List.nodup_append.1 hnd2
      exact List.nodup_append.2 ⟨h2.1, (List.nodup_cons.1 h2.2.1).2, fun a ha b hb => h2.2.2 a ha b (by simp only [List.mem_cons]; exact .inr hb)⟩
    · intro a ha b hb
      exact (List.nodup_append.1 hnd).2.2 a ha b (by
        rcases List.mem_append.1 hb with hb | hb
        · simp [hb]
        · rw [List.mem_append, List.mem_cons]; exact .inr (.inr hb))
  · intro i hi
    refine h.lt i ?_
    rw [remG_flatten] at hi
    rw [hfl]
    rw [List.mem_append, List.mem_append] at hi
    rw [List.mem_append, List.mem_append, List.mem_cons]
    rcases hi with a | a | a
    · exact .inl a
    · exact .inr (.inl a)
    · exact .inr (.inr (.inr a))
  · intro i hi
    by_cases e : i = k
    · subst e
      simp [pvR, nxR]
    · rw [if_neg e] at hi
      obtain ⟨g1, g2⟩ := h.gonE i hi
      have hna : i ∉ (G1 ++ (X ++ k :: Y) :: G2).flatten := by
        rw [← h.alive]
        simp [hi]
      have h2 : ¬ nx k = some i := fun e => by
        rw [mn] at e
        have := List.mem_of_mem_head? e
        exact hna (by rw [hfl]; simp [this])
      have h3 : ¬ pv k = some i := fun e => by
        rw [mp'] at e
        have := List.mem_of_getLast? e
        exact hna (by rw [hfl]; simp [this])
      simp [pvR, nxR, e, h2, h3, g1, g2]
  · have e1 : ord.filter (fun i => !(if i = k then true else gone i)) = (ord.filter (fun i => !gone i)).filter (fun i => decide (i ≠ k)) := by
      rw [List.filter_filter]
      congr 1
      funext i
      by_cases e : i = k <;> simp [e]
    rw [e1, h.alive, hfl, remG_flatten]
    have f1 : ∀ l : List Nat, k ∉ l → l.filter (fun i => decide (i ≠ k)) = l := fun l hl => List.filter_eq_self.2 (fun a ha => by simp; intro e; exact hl (e ▸ ha))
    rw [List.filter_append, List.filter_append, List.filter_cons, f1 _ hk1, f1 _ hkX, f1 _ hk2]
    simp
end Go.Proofs.Qxb6612266a.Book
