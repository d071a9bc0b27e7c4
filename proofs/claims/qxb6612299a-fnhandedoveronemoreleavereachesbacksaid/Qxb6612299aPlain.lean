/-
  PLAIN LAW of seat b6612299a (no Go in sight): leaves (x, y); an instant c is closed where no leave has x < c ≤ y; the greatest closed instant.
-/
namespace Go.Proofs.Qxb6612299a.Plain

/-- No leave of the two lists bridges c: none has since < c ≤ at. -/
def closedB (c : Int) (xs ys : List Int) : Bool := (xs.zip ys).all fun p => !(decide (c ≤ p.2) && decide (p.1 < c))

theorem closedB_iff {c : Int} {xs ys : List Int} : closedB c xs ys = true ↔ ∀ p, p ∈ xs.zip ys → ¬ (c ≤ p.2 ∧ p.1 < c) := by
  unfold closedB
  rw [List.all_eq_true]
  constructor
  · intro h p hp ⟨h1, h2⟩
    have := h p hp
    simp [h1, h2] at this
  · intro h p hp
    have := h p hp
    by_cases h1 : c ≤ p.2 <;> by_cases h2 : p.1 < c <;> simp [h1, h2]
    exact this ⟨h1, h2⟩

/-- What handedOver comes to: s is an instant of the candidates, closed, and no closed instant at or before m lies behind it. -/
structure Great (m : Int) (xs ys : List Int) (s : Int) : Prop where
  le : s ≤ m
  from_ : s = m ∨ s ∈ xs
  closed : closedB s xs ys = true
  top : ∀ c, c ≤ m → closedB c xs ys = true → c ≤ s

/-- A jump back over a leave that bridges s passes no closed instant. -/
theorem top_jump {m s x y : Int} {xs ys : List Int} (h : ∀ c, c ≤ m → closedB c xs ys = true → c ≤ s) (hp : (x, y) ∈ xs.zip ys) (h1 : s ≤ y) (_h2 : x < s) :
    ∀ c, c ≤ m → closedB c xs ys = true → c ≤ x := by
  intro c hc hcl
  have hs := h c hc hcl
  rcases (show x < c ∨ c ≤ x from by omega) with h3 | h3
  · exact absurd ⟨by show c ≤ y; omega, h3⟩ (closedB_iff.1 hcl (x, y) hp)
  · exact h3

/-- The last step of zzCoveredSince: the candidates 0 .. k-1 looked at. -/
def covStep (m : Int) (xs ys : List Int) (st : Int × Bool) (c : Int) : Int × Bool :=
  if c ≤ m ∧ (st.2 = false ∨ st.1 < c) ∧ closedB c xs ys = true then (c, true) else st
def covTo (m : Int) (xs ys : List Int) (k : Nat) : Int × Bool := (xs.take k).foldl (covStep m xs ys) (m, false)
def covered (m : Int) (xs ys : List Int) : Int := if closedB m xs ys = true then m else (covTo m xs ys xs.length).1

theorem covTo_succ (m : Int) (xs ys : List Int) (k : Nat) (hk : k < xs.length) : covTo m xs ys (k + 1) = covStep m xs ys (covTo m xs ys k) xs[k] := by
  unfold covTo
  rw [List.take_succ_eq_append_getElem hk, List.foldl_append]
  rfl

/-- The candidates looked at: the greatest closed one of them, or none yet. -/
theorem covTo_spec (m : Int) (xs ys : List Int) : ∀ k, k ≤ xs.length →
    ((covTo m xs ys k).2 = false → ∀ c, c ∈ xs.take k → c ≤ m → closedB c xs ys = true → False) ∧
    ((covTo m xs ys k).2 = true → (covTo m xs ys k).1 ∈ xs.take k ∧ (covTo m xs ys k).1 ≤ m ∧ closedB (covTo m xs ys k).1 xs ys = true ∧ ∀ c, c ∈ xs.take k → c ≤ m → closedB c xs ys = true → c ≤ (covTo m xs ys k).1) := by
  intro k
  induction k with
  | zero => intro _; exact ⟨fun _ c hc => by simp at hc, fun h => by simp [covTo] at h⟩
  | succ k ih =>
    intro hk
    obtain ⟨i1, i2⟩ := ih (by omega)
    rw [covTo_succ m xs ys k (by omega)]
    have hmem : ∀ c, c ∈ xs.take (k + 1) ↔ c ∈ xs.take k ∨ c = xs[k] := by
      intro c
      rw [List.take_succ_eq_append_getElem (by omega), List.mem_append, List.mem_singleton]
    generalize covTo m xs ys k = st at *
    obtain ⟨b, hv⟩ := st
    unfold covStep
    by_cases hc : xs[k] ≤ m ∧ (hv = false ∨ b < xs[k]) ∧ closedB xs[k] xs ys = true
    · rw [if_pos hc]
      obtain ⟨c1, c2, c3⟩ := hc
      refine ⟨fun h => by simp at h, fun _ => ⟨(hmem _).2 (.inr rfl), c1, c3, ?_⟩⟩
      intro c hcm hcl hcc
      rcases (hmem c).1 hcm with h | h
      · cases hv with
        | false => exact absurd hcc (fun hcc => i1 rfl c h hcl hcc)
        | true =>
          have h2 := (i2 rfl).2.2.2 c h hcl hcc
          rcases c2 with c2 | c2
          · simp at c2
          · show c ≤ xs[k]; simp at h2; omega
      · show c ≤ xs[k]; omega
    · rw [if_neg hc]
      refine ⟨fun h c hcm hcl hcc => ?_, fun h => ?_⟩
      · rcases (hmem c).1 hcm with h' | h'
        · exact i1 h c h' hcl hcc
        · subst h'
          exact hc ⟨hcl, .inl h, hcc⟩
      · obtain ⟨a1, a2, a3, a4⟩ := i2 h
        refine ⟨(hmem _).2 (.inl a1), a2, a3, fun c hcm hcl hcc => ?_⟩
        rcases (hmem c).1 hcm with h' | h'
        · exact a4 c h' hcl hcc
        · subst h'
          rcases (show b < xs[k] ∨ xs[k] ≤ b from by omega) with h3 | h3
          · exact absurd ⟨hcl, .inr h3, hcc⟩ hc
          · exact h3

/-- The two answers are one. -/
theorem covered_eq {m s : Int} {xs ys : List Int} (h : Great m xs ys s) : covered m xs ys = s := by
  unfold covered
  by_cases hm : closedB m xs ys = true
  · rw [if_pos hm]
    have := h.top m (Int.le_refl _) hm
    have := h.le
    omega
  · rw [if_neg hm]
    obtain ⟨p1, p2⟩ := covTo_spec m xs ys xs.length (Nat.le_refl _)
    rw [List.take_length] at p1 p2
    have hs : s ∈ xs := by
      rcases h.from_ with e | e
      · rw [e] at h; exact absurd h.closed hm
      · exact e
    cases hb : (covTo m xs ys xs.length).2 with
    | false => exact absurd h.closed (fun hc => p1 hb s hs h.le hc)
    | true =>
      obtain ⟨q1, q2, q3, q4⟩ := p2 hb
      have h1 := h.top _ q2 q3
      have h2 := q4 s hs h.le h.closed
      omega

theorem covTo_bd (m : Int) (xs ys : List Int) (hm : -9223372036854775808 ≤ m ∧ m ≤ 9223372036854775807) (hx : ∀ x, x ∈ xs → -9223372036854775808 ≤ x ∧ x ≤ 9223372036854775807) (k : Nat) (hk : k ≤ xs.length) :
    -9223372036854775808 ≤ (covTo m xs ys k).1 ∧ (covTo m xs ys k).1 ≤ 9223372036854775807 := by
  induction k with
  | zero => exact hm
  | succ k ih =>
    rw [covTo_succ m xs ys k (by omega)]
    unfold covStep
    split
    · exact hx _ (List.getElem_mem _)
    · exact ih (by omega)

/-- One more leave: the leaves' lists grown by one. -/
theorem closedB_snoc {c x y : Int} {xs ys : List Int} (hl : xs.length = ys.length) : closedB c (xs ++ [x]) (ys ++ [y]) = (closedB c xs ys && !(decide (c ≤ y) && decide (x < c))) := by
  unfold closedB
  rw [List.zip_append hl, List.all_append]
  simp

theorem one_more {m s0 s1 x y : Int} {xs ys : List Int} (hl : xs.length = ys.length) (h0 : Great m xs ys s0) (h1 : Great m (xs ++ [x]) (ys ++ [y]) s1) :
    (x < s0 ∧ s0 ≤ y → s1 ≤ x) ∧ (¬ (x < s0 ∧ s0 ≤ y) → s1 = s0) := by
  have c1 := h1.closed
  rw [closedB_snoc hl, Bool.and_eq_true] at c1
  obtain ⟨c1, c2⟩ := c1
  have hle : s1 ≤ s0 := h0.top s1 h1.le c1
  refine ⟨fun ⟨a, b⟩ => ?_, fun hn => ?_⟩
  · have c3 : ¬ (s1 ≤ y ∧ x < s1) := by
      intro ⟨u, v⟩
      simp [u, v] at c2
    omega
  · have h2 := h1.top s0 h0.le (by
      rw [closedB_snoc hl, Bool.and_eq_true]
      refine ⟨h0.closed, ?_⟩
      by_cases u : s0 ≤ y <;> by_cases v : x < s0 <;> simp [u, v]
      exact hn ⟨v, u⟩)
    omega

/-- How many leaves begin before s: what a jump lowers. -/
def cnt (s : Int) (xs : List Int) : Nat := (xs.filter fun x => decide (x < s)).length
theorem cnt_mono (xs : List Int) {s t : Int} (h : t ≤ s) : cnt t xs ≤ cnt s xs := by
  unfold cnt
  induction xs with
  | nil => simp
  | cons a l ih =>
    by_cases h1 : a < t
    · simp [h1, show a < s from by omega]; exact ih
    · by_cases h2 : a < s
      · simp [h1, h2]; omega
      · simp [h1, h2]; exact ih
theorem cnt_lt {xs : List Int} {s x : Int} (hx : x ∈ xs) (h : x < s) : cnt x xs < cnt s xs := by
  induction xs with
  | nil => simp at hx
  | cons a l ih =>
    by_cases hl : x ∈ l
    · have h1 := ih hl
      unfold cnt at *
      by_cases h2 : a < x
      · simp [h2, show a < s from by omega]; exact h1
      · by_cases h3 : a < s
        · simp [h2, h3]; omega
        · simp [h2, h3]; exact h1
    · have ha : x = a := by simpa [hl] using hx
      subst ha
      have h1 := cnt_mono l (show x ≤ s from by omega)
      unfold cnt at *
      simp [h]; omega
end Go.Proofs.Qxb6612299a.Plain
