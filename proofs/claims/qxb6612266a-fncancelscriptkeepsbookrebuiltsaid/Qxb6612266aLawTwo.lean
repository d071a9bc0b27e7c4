/-
  FnCancelScriptKeepsBookRebuilt walked.
-/
import Derived.Test.Qxb6612266aLawOne
import Derived.Outline
namespace Go.Proofs.Qxb6612266a
open Go.RowKit
set_option linter.unusedSimpArgs false

/-- A store into a slice of bools leaves the book as it is. -/
theorem St.bools {k : Cfg} {ord : List Nat} {gone : Nat → Bool} {op oi oa : Option Addr} {w : World} (h : St k ord gone op oi oa w) {G n i : Nat} {f : Nat → Value} {v : Value} (hr : w.rowIs G 4 n f) (hB : k.B0 ≤ G) : St k ord gone op oi oa (w.setCell ⟨G, i, none⟩ v) := by
  obtain ⟨pv, nx, gs, lbs, lv, hi⟩ := h.inv
  obtain ⟨cs, hG, _⟩ := hr
  have hnew : ∀ {b : Nat} {c : Array Value} {t : TypeId}, w.heap[b]? = some (.cells c t (0, 0)) → t ≠ 4 → (w.setCell ⟨G, i, none⟩ v).heap[b]? = some (.cells c t (0, 0)) := fun hb ht => (blk_set_ne (ne_of_type hb hG ht)).trans hb
  have hrow : ∀ {b t m : Nat} {g : Nat → Value}, w.rowIs b t m g → t ≠ 4 → (w.setCell ⟨G, i, none⟩ v).rowIs b t m g := fun hb ht => by
    have hb' := hb
    obtain ⟨c, hc, _⟩ := hb'
    exact hb.setOther (a := ⟨G, i, none⟩) (ne_of_type hc hG ht) v
  refine ⟨⟨pv, nx, gs, lbs, lv, ⟨hi.base1, hi.base2, hnew hi.book (by decide), ?_, hi.len, fun j hj => hnew (hi.lvl j hj) (by decide), hi.baseL, hi.nodL, fun j hj => hnew (hi.ords j hj) (by decide), hi.pure⟩⟩, ?_, ?_, ?_, h.len, h.nod, h.lt, h.n, by simpa [World.setCell] using h.sz⟩
  · rcases hi.lev with l | ⟨lb, cap, f, h1, h2, h3, h4, h5, h6⟩
    · exact .inl l
    · exact .inr ⟨lb, cap, f, h1, h2, h3, h4, hrow h5 (by decide), h6⟩
  · rcases h.orr with e | ⟨b, e1, e2⟩
    · exact .inl e
    · exact .inr ⟨b, e1, hrow e2 (by decide)⟩
  · exact h.prr.fr (Below.setCell (p := ⟨G, i, none⟩) (Below.refl _ _) hB _)
  · rcases h.idr with e | ⟨b, e1, e2⟩
    · exact .inl e
    · exact .inr ⟨b, e1, hrow e2 (by decide)⟩

/-- What is marked behind t of the indices. -/
structure Seen (n : Nat) (K : Nat → Int) (t : Nat) (sn : Nat → Bool) : Prop where
  rng : ∀ j, j < t → 0 ≤ K j ∧ K j < (n : Int)
  mem : ∀ i, sn i = true ↔ ∃ j, j < t ∧ K j = (i : Int)
  dis : ∀ j j', j < j' → j' < t → K j ≠ K j'

theorem Seen.start (n : Nat) (K : Nat → Int) : Seen n K 0 (fun _ => false) := ⟨fun j hj => absurd hj (Nat.not_lt_zero _), fun i => ⟨fun h => by simp at h, fun ⟨j, hj, _⟩ => absurd hj (Nat.not_lt_zero _)⟩, fun _ j' _ hj => absurd hj (Nat.not_lt_zero _)⟩

theorem Seen.step {n : Nat} {K : Nat → Int} {t i0 : Nat} {sn : Nat → Bool} (h : Seen n K t sn) (e : K t = (i0 : Int)) (hi : i0 < n) (hs : sn i0 = false) : Seen n K (t + 1) (fun i => if i = i0 then true else sn i) := by
  refine ⟨fun j hj => ?_, fun i => ?_, fun j j' h1 h2 => ?_⟩
  · by_cases e1 : j = t
    · subst e1; rw [e]; omega
    · exact h.rng j (by omega)
  · by_cases e1 : i = i0
    · subst e1
      simp only [if_true, true_iff]
      exact ⟨t, by omega, e⟩
    · simp only [if_neg e1]
      rw [h.mem]
      constructor
      · rintro ⟨j, hj, hk⟩
        exact ⟨j, by omega, hk⟩
      · rintro ⟨j, hj, hk⟩
        by_cases e2 : j = t
        · subst e2
          rw [e] at hk
          omega
        · exact ⟨j, by omega, hk⟩
  · by_cases e1 : j' = t
    · subst e1
      intro hk
      have : sn i0 = true := (h.mem i0).2 ⟨j, h1, by rw [hk, e]⟩
      rw [hs] at this
      simp at this
    · exact h.dis j j' h1 (by omega)

theorem Seen.fresh {n m : Nat} {K : Nat → Int} {t i0 : Nat} {sn gone : Nat → Bool} (h : Seen n K m sn) (hg : Seen n K t gone) (ht : t < m) (e : K t = (i0 : Int)) : gone i0 = false := by
  cases hc : gone i0 with
  | false => rfl
  | true =>
    obtain ⟨j, hj, hk⟩ := (hg.mem i0).1 hc
    exact absurd (hk.trans e.symm) (h.dis j t hj ht)

set_option maxHeartbeats 800000 in
set_option maxRecDepth 100000 in
theorem law5_main (s : Int) (op ok : Option Addr) (n cp m ck : Nat) (P K : Nat → Int) (now : Int) (w : World) (hp : PrR w.heap.size P w op n) (hk : PrR w.heap.size K w ok m) (h1 : n ≤ 4096) (h2 : m ≤ 4096) :
    Calls Try.prog 5 #[.int .u8 s, .slice op n cp, .slice ok m ck, .int .i64 now] w fun e w' => e = .returned (.bool true) ∧ Below w.heap.size w w' := by
  have h1' : (n : Int) ≤ 4096 := by omega
  have h2' : (m : Int) ≤ 4096 := by omega
  have hmk := run_make_row' (P := Try.prog) 33 4 (.bool false) 1 Try.underlying33 Try.info4 rfl .i64 .i64 n (by omega) (by omega)
  have HP := hid hp
  have HK := hid hk
  clear hp hk
  go_enter Try.func5, Try.ntmps5
  go_wp2_with (first | (go_at_call 18; go_in))
  go_loopw [10] (fun tv wr => ∃ (t : Nat) (sn : Nat → Bool), t ≤ m ∧ tv = .int .i64 t ∧ Hid (Seen n K t sn) ∧ wr.rowIs w.heap.size 4 n (fun i => .bool (sn i)) ∧ Below w.heap.size w wr) (fun tv _ => m - (intOf tv).toNat)
  case atStart => exact ⟨0, fun _ => false, Nat.zero_le _, rfl, Seen.start n K, World.rowIs_made w (.bool false) n 4, (Below.refl _ _).alloc (Nat.le_refl _) _⟩
  case round =>
    obtain ⟨t, sn, ht, rfl, HS, hrow, hbel⟩ := hrel
    by_cases hlt : t < m
    · obtain ⟨bk, off, rfl, ckt⟩ := (HK.out.fr hbel).at hlt
      have i1 : (0 : Int) ≤ (t : Int) := Int.natCast_nonneg _
      have i2 : (t : Int) < (m : Int) := by omega
      have HROW := hid hrow
      have HBEL := hid hbel
      clear hrow hbel
      by_cases hn0 : 0 ≤ K t
      · by_cases hnn : K t < (n : Int)
        · obtain ⟨i0, hi0⟩ : ∃ i0 : Nat, K t = (i0 : Int) := ⟨(K t).toNat, by omega⟩
          rw [hi0] at ckt hn0 hnn
          have HI0 := hid hi0
          have hin : i0 < n := by omega
          have c0 := HROW.out.cell hin
          have f0 := HROW.out.frozen i0
          clear hi0
          cases hsn : sn i0 with
          | true =>
            rw [hsn] at c0
            go_wp2_with fail
            go_ret
            exact ⟨rfl, HBEL.out⟩
          | false =>
            rw [hsn] at c0
            have HSN := hid hsn
            clear hsn
            go_wp2_with fail
            go_roundw
            case rel => exact ⟨t + 1, fun i => if i = i0 then true else sn i, by omega, by go_num, HS.out.step HI0.out hin HSN.out, (HROW.out.set i0 (.bool true)).congr (fun j _ => by by_cases e : j = i0 <;> simp [e]), Below.setCell (p := ⟨w.heap.size, i0, none⟩) HBEL.out (Nat.le_refl _) _⟩
            case measure => simp [intOf]; omega
        · go_wp2_with fail
          go_ret
          exact ⟨rfl, HBEL.out⟩
      · go_wp2_with fail
        go_ret
        exact ⟨rfl, HBEL.out⟩
    · obtain rfl : m = t := by omega
      obtain ⟨w0, hw0⟩ : ∃ w0, w0 = wr := ⟨_, rfl⟩
      subst hw0
      have hp0 : PrR w0.heap.size P w0 op n := (HP.out.fr hbel).mono hbel.size
      have HARR := hid (arrange_any (s == 0) P n cp op w0 h1 hp0)
      have HMADE := hid (fun oi ord w1 ci hb q1 q2 q3 q4 q5 => St.made s now P n cp ci op oi ord w0 w1 h1 hp0 hb q1 q2 q3 q4 q5)
      have HBEL := hid hbel
      clear hp0 hrow hbel hlt ht
      go_wp2_with fail
      refine Calls.mono HARR.out ?_
      rintro e w1 ⟨⟨ord, oi, rfl, o1, o2, o3, o4, o5⟩, hb1⟩
      have hsz01 : w.heap.size ≤ w1.heap.size := Nat.le_trans HBEL.out.size hb1.size
      have HB := hid (HMADE.out oi ord w1 n hb1 o1 o2 o3 o4 o5)
      clear o1 o2 o3 o4 o5 hb1 HMADE HARR
      go_wp2_with fail
      refine Calls.mono HB.out ?_
      rintro e w2 ⟨rfl, hst, hb2⟩
      have HST := hid hst
      have HB2 := hid (HBEL.out.trans (hb2.mono HBEL.out.size))
      clear hst hb2 HB
      go_wp2_with fail
      have HS3 : Hid (St (cfgAt w1.heap.size n s now P) ord (fun _ => false) op oi (some ⟨w1.heap.size + 1, 0, none⟩) (w2.alloc (.cells (madeCells #[.bool false] n) 4))) := hid (HST.out.below ((Below.refl _ _).alloc (Nat.le_refl _) _))
      have HB3 : Hid (Below w.heap.size w (w2.alloc (.cells (madeCells #[.bool false] n) 4))) := hid (HB2.out.alloc HB2.out.size _)
      have hG : w1.heap.size ≤ w2.heap.size := HST.out.sz
      have HOTH := hid (fun W => other_any s W)
      have HCALLS : Hid (∀ (gone : Nat → Bool) (W : World), St (cfgAt w1.heap.size n s now P) ord gone op oi (some ⟨w1.heap.size + 1, 0, none⟩) W → W.rowIs w2.heap.size 4 n (fun i => .bool (gone i)) → ∀ mm, _) := hid (fun gone W h hg => law_calls (og := some ⟨w2.heap.size, 0, none⟩) h (.inr ⟨_, rfl, hg⟩))
      generalize (if s = 0 then (1 : Int) else 0) = so at HOTH HCALLS
      clear hmk
      go_loopw [17] (fun tv wq => ∃ (t : Nat) (gone : Nat → Bool), t ≤ m ∧ tv = .int .i64 t ∧ Hid (Seen n K t gone) ∧ Hid (St (cfgAt w1.heap.size n s now P) ord gone op oi (some ⟨w1.heap.size + 1, 0, none⟩) wq) ∧ Hid (wq.rowIs w2.heap.size 4 n (fun i => .bool (gone i))) ∧ Hid (Below w.heap.size w wq)) (fun tv _ => m - (intOf tv).toNat)
      case atStart => exact ⟨0, fun _ => false, Nat.zero_le _, rfl, Seen.start n K, HS3, World.rowIs_made w2 (.bool false) n 4, HB3⟩
      case round =>
        obtain ⟨t, gone, ht, rfl, HSE, HSQ, HRQ, HBQ⟩ := hrel
        by_cases hlt : t < m
        · obtain ⟨bk, off, rfl, ckt⟩ := (HK.out.fr HBQ.out).at hlt
          have i1 : (0 : Int) ≤ (t : Int) := Int.natCast_nonneg _
          have i2 : (t : Int) < (m : Int) := by omega
          obtain ⟨r1, r2⟩ := HS.out.rng t hlt
          obtain ⟨i0, hi0⟩ : ∃ i0 : Nat, K t = (i0 : Int) := ⟨(K t).toNat, by omega⟩
          have HI0 := hid hi0
          rw [hi0] at ckt r1 r2
          have hin : i0 < n := by omega
          have HFRE := hid (HS.out.fresh HSE.out hlt hi0)
          obtain ⟨do1, e, co1⟩ := HSQ.out.orr.at hin
          cases e
          have co1' : wr.cell? ⟨w1.heap.size + 1, i0, none⟩ = some (.pointer (some ⟨w1.heap.size + 2 + i0, 0, none⟩)) := co1
          have HC : Hid (Calls Try.prog 9 #[.pointer (some ⟨w1.heap.size, 0, none⟩), .pointer (some ⟨w1.heap.size + 2 + i0, 0, none⟩), .int .i64 now] wr fun e w' => e = .returned (.tuple #[]) ∧ St (cfgAt w1.heap.size n s now P) ord (fun i => if i = i0 then true else gone i) op oi (some ⟨w1.heap.size + 1, 0, none⟩) w' ∧ Fr w1.heap.size wr w') := hid (HSQ.out.cancel (i0 := i0) hin HFRE.out)
          clear hi0 co1
          go_wp2_with fail
          refine Calls.mono HC.out ?_
          rintro e w4 ⟨rfl, hst4, hf4⟩
          have hrow4 := hf4.row HRQ.out (by decide)
          have c4 := hrow4.cell hin
          have f4 := hrow4.frozen i0
          have hst5 := hst4.bools (i := i0) (v := .bool true) hrow4 hG
          have HR5 : Hid ((w4.setCell ⟨w2.heap.size, i0, none⟩ (.bool true)).rowIs w2.heap.size 4 n (fun i => .bool (if i = i0 then true else gone i))) := hid ((hrow4.set i0 (.bool true)).congr (fun j _ => by by_cases e : j = i0 <;> simp [e]))
          have HB4 : Hid (Below w.heap.size w (w4.setCell ⟨w2.heap.size, i0, none⟩ (.bool true))) := hid (Below.setCell (p := ⟨w2.heap.size, i0, none⟩) (HBQ.out.trans ((hf4.below HSQ.out.sz).mono hsz01)) (Nat.le_trans hsz01 hG) _)
          have HC5 := hid (HCALLS.out _ _ hst5 HR5.out)
          have HST5 := hid hst5
          clear hst4 hf4 hrow4 hst5 HC
          go_wp2_with fail
          refine Calls.mono ((HC5.out 0).1 _ _ _ _) ?_
          rintro e w5 ⟨rfl, m5, rfl⟩
          go_wp2_with fail
          go_roundw
          case rel => exact ⟨t + 1, _, by omega, by go_num, HSE.out.step HI0.out hin HFRE.out, HST5.out.below (below_drewN (Below.refl _ _) _), HR5.out, below_drewN HB4.out _⟩
          case measure => simp [intOf]; omega
        · obtain rfl : m = t := by omega
          have HC5 := hid (HCALLS.out _ _ HSQ.out HRQ.out)
          go_wp2_with fail
          refine Calls.mono (HOTH.out _) ?_
          rintro e w6 ⟨rfl, rfl⟩
          go_wp2_with fail
          refine Calls.mono (HC5.out 0).2.1 ?_
          rintro e w7 ⟨rfl, rfl⟩
          go_wp2_with fail
          refine Calls.mono ((HC5.out 0).2.2 _ _ _) ?_
          rintro e w8 ⟨rfl, m8, rfl⟩
          go_wp2_with fail
          go_ret
          exact ⟨rfl, below_drewN HBQ.out _⟩

set_option maxHeartbeats 800000 in
set_option maxRecDepth 100000 in
theorem law5_off (s : Int) (op ok : Option Addr) (n cp m ck : Nat) (now : Int) (w : World) (hm : n ≤ 9223372036854775807) (hm2 : m ≤ 9223372036854775807) (h12 : ¬ (n ≤ 4096 ∧ m ≤ 4096)) :
    Calls Try.prog 5 #[.int .u8 s, .slice op n cp, .slice ok m ck, .int .i64 now] w fun e w' => e = .returned (.bool true) ∧ Below w.heap.size w w' := by
  by_cases h1 : n ≤ 4096
  · by_cases h2 : m ≤ 4096
    · exact absurd ⟨h1, h2⟩ h12
    · have h1' : (n : Int) ≤ 4096 := by omega
      have h2' : ¬ (m : Int) ≤ 4096 := by omega
      have g2 : decide ((4096 : Int) < (m : Int)) = true := by simp; omega
      have g1 : decide ((4096 : Int) < (n : Int)) = false := by simp; omega
      clear h12
      go_enter Try.func5, Try.ntmps5
      go_wp2_with (first | (go_at_call 18; go_in))
      all_goals go_ret
      all_goals exact ⟨rfl, Below.refl _ _⟩
  · have h2' : ¬ (n : Int) ≤ 4096 := by omega
    have g1 : decide ((4096 : Int) < (n : Int)) = true := by simp; omega
    clear h12
    go_enter Try.func5, Try.ntmps5
    go_wp2_with (first | (go_at_call 18; go_in))
    all_goals go_ret
    all_goals exact ⟨rfl, Below.refl _ _⟩

theorem law5 (s : Int) (op ok : Option Addr) (n cp m ck : Nat) (zs ys : List Int) (now : Int) (w : World) (hr : IsRow .i64 w op n cp zs) (hk : IsRow .i64 w ok m ck ys) :
    Calls Try.prog 5 #[.int .u8 s, .slice op n cp, .slice ok m ck, .int .i64 now] w fun e w' => e = .returned (.bool true) ∧ Below w.heap.size w w' := by
  by_cases h : n ≤ 4096 ∧ m ≤ 4096
  · exact law5_main s op ok n cp m ck _ _ now w hr.pr hk.pr h.1 h.2
  · exact law5_off s op ok n cp m ck now w hr.lenle hk.lenle h
end Go.Proofs.Qxb6612266a
