/-
  zzBuildBook walked.
-/
import Derived.Test.Qxb6612266aGrow
import Derived.Outline
namespace Go.Proofs.Qxb6612266a
open Go.RowKit
set_option linter.unusedSimpArgs false
set_option maxHeartbeats 1600000
set_option maxRecDepth 100000
theorem Try.info32 : (Try.prog.info? 32).map (fun i => (i.zero, i.size, i.bytes)) = some (some (.pointer none), 1, 8) := by kernel_rfl

/-- Where zzBuildBook lays what it lays. -/
def cfgAt (B n : Nat) (s now : Int) (P : Nat → Int) : Cfg := ⟨B, B, B + 2, n, s, now, P⟩

/-- Behind i rounds of the first loop. -/
structure Made (k : Cfg) (w : World) (i : Nat) : Prop where
  size : w.heap.size = k.c + i
  book : w.heap[k.kb]? = some (.cells (bookC k (.slice none 0 0)) 72 (0, 0))
  row : w.rowIs (k.kb + 1) 32 k.n (fun t => if t < i then .pointer (some ⟨k.c + t, 0, none⟩) else .pointer none)
  ords : ∀ t, t < i → w.heap[k.c + t]? = some (.cells (ordC k false none none t) 47 (0, 0))

theorem Made.step {k : Cfg} {w : World} {i : Nat} (h : Made k w i) (hc : k.c = k.kb + 2) :
    Made k ((w.alloc (.cells (ordC k false none none i) 47 (0, 0))).setCell ⟨k.kb + 1, i, none⟩ (.pointer (some ⟨w.heap.size, 0, none⟩))) (i + 1) := by
  have hs := h.size
  refine ⟨by simp [World.setCell, hs]; omega, ?_, ?_, fun t ht => ?_⟩
  · exact (blk_set_ne (by simp)).trans ((blk_alloc_lt (by omega)).trans h.book)
  · refine ((h.row.alloc _).set i _).congr (fun t _ => ?_)
    by_cases e : t = i
    · subst e; simp [hs]
    · simp only [if_neg e]
      by_cases e2 : t < i
      · simp [e2, show t < i + 1 by omega]
      · simp [e2, show ¬ t < i + 1 by omega]
  · refine (blk_set_ne (by simp; omega)).trans ?_
    by_cases e : t = i
    · subst e
      rw [← hs]
      exact blk_alloc_new
    · exact (blk_alloc_lt (by omega)).trans (h.ords t (by omega))

theorem Made.start (k : Cfg) (w : World) (hk : k.kb = w.heap.size) (hc : k.c = k.kb + 2) :
    Made k ((w.alloc (.cells #[.bool true, .slice none 0 0, .bool false, .slice none 0 0, .int .i64 0, .int .i64 0] 72 (0, 0))).alloc (.cells (madeCells #[.pointer none] k.n) 32)) 0 := by
  refine ⟨by simp; omega, ?_, ?_, fun t ht => absurd ht (Nat.not_lt_zero _)⟩
  · rw [hk]
    refine (blk_alloc_lt (by simp)).trans (blk_alloc_new.trans ?_)
    unfold bookC
    by_cases hs : k.s = 0 <;> simp [hs]
  · have := World.rowIs_made (w.alloc (.cells #[.bool true, .slice none 0 0, .bool false, .slice none 0 0, .int .i64 0, .int .i64 0] 72 (0, 0))) (.pointer none) k.n 32
    rw [hk]
    exact (by simpa using this)

theorem Made.cells {k : Cfg} {w : World} {i : Nat} (h : Made k w i) (hi : i < k.n) (o : Obj) : (w.alloc o).cell? ⟨k.kb + 1, i, none⟩ = some (.pointer none) ∧ (w.alloc o).frozen? ⟨k.kb + 1, i, none⟩ = false := by
  have := (h.row.alloc o).cell hi
  exact ⟨by simpa using this, (h.row.alloc o).frozen i⟩

theorem mid_out {bids : Bool} {n : Nat} {P : Nat → Int} {ord A g R R1 : List Nat} {x a : Nat} {pv nx : Nat → Option Nat} {gs : List (List Nat)} (h1 : ord.Nodup) (h2 : ∀ x, x ∈ ord → x < n) (h3 : Book.SortedO bids P ord) (h4 : ord = A ++ x :: R1) (h5 : x :: R1 = g ++ R) (h6 : g.getLast? = some a) (h7 : Book.Mid bids n P A g R pv nx gs) (q : R = [] ∨ P (R.headD 0) ≠ P x) :
    Book.Out bids n P (A ++ g) R pv nx (gs ++ [g]) := by
  rw [h5] at h4
  subst h4
  have hg0 : g ≠ [] := fun e => by simp [e] at h6
  have hx : g.headD 0 = x := by
    cases g with
    | nil => simp at hg0
    | cons b r => simp at h5; simp [h5.1]
  exact h7.out hg0 h1 h2 h3 (by rw [hx]; exact q)

theorem add21 {k : Cfg} {A g R R1 : List Nat} {x a : Nat} {pv nx : Nat → Option Nat} {gs : List (List Nat)} {lbs : List Nat} {lv : Value} {w : World} (h : Inv k A (fun _ => false) (fun _ => false) pv nx gs lbs lv w) (h5 : x :: R1 = g ++ R) (h6 : g.getLast? = some a) (hp : Book.PInv k.bids k.n k.P (A ++ g) (fun _ => false) pv nx (gs ++ [g])) (m : Nat) (hA : A.length ≤ 4096) :
    Calls Try.prog 21 #[.pointer (some ⟨k.kb, 0, none⟩), .int .u8 k.s, .int .i64 (k.P x), .pointer (some ⟨k.c + x, 0, none⟩), .pointer (some ⟨k.c + a, 0, none⟩)] (w.drewN m) fun e w' => e = .returned (.tuple #[]) ∧ (∃ lbs' lv', Inv k (A ++ g) (fun _ => false) (fun _ => false) pv nx (gs ++ [g]) lbs' lv' w') ∧ Fr k.B0 w w' := by
  have hb : Below w.heap.size w (w.drewN m) := below_drewN (Below.refl _ _) m
  have c := addLevel_any g (A ++ g) (h.below hb) hp (by rw [h.len]; have := gs_len h; omega)
  have hg0 : g ≠ [] := fun e => by simp [e] at h6
  have hx : g.headD 0 = x ∧ g.head? = some x := by
    cases g with
    | nil => simp at hg0
    | cons b r => simp at h5; simp [h5.1]
  rw [hx.1, hx.2, h6] at c
  exact c.mono (fun e w' ⟨h1, h2, h3⟩ => ⟨h1, h2, (Fr.of_below hb).trans h3⟩)

theorem link_mid {k : Cfg} {ord A g R R1 : List Nat} {x a y : Nat} {pv nx : Nat → Option Nat} {gs : List (List Nat)} {lbs : List Nat} {lv : Value} {w : World} (h : Inv k A (fun _ => false) (fun _ => false) pv nx gs lbs lv w) (h1 : ord.Nodup) (h2 : ∀ x, x ∈ ord → x < k.n) (h4 : ord = A ++ x :: R1) (h5 : x :: R1 = g ++ y :: R) (h6 : g.getLast? = some a) (h7 : Book.Mid k.bids k.n k.P A g (y :: R) pv nx gs) (hpe : k.P y = k.P x) (m : Nat) :
    Calls Try.prog 20 #[.pointer (some ⟨k.c + a, 0, none⟩), .pointer (some ⟨k.c + y, 0, none⟩)] (w.drewN m) fun e w' => e = .returned (.tuple #[]) ∧ (∃ pv3 nx3, Book.Mid k.bids k.n k.P A (g ++ [y]) R pv3 nx3 gs ∧ Inv k A (fun _ => false) (fun _ => false) pv3 nx3 gs lbs lv w') ∧ Fr k.B0 w w' := by
  have hb : Below w.heap.size w (w.drewN m) := below_drewN (Below.refl _ _) m
  have hg0 : g ≠ [] := fun e => by simp [e] at h6
  have hx : g.headD 0 = x := by
    cases g with
    | nil => simp at hg0
    | cons b r => simp at h5; simp [h5.1]
  rw [h5] at h4
  subst h4
  have hM := h7.step h1 (by rw [hx]; exact hpe) h6
  have hag : a ∈ g := List.mem_of_getLast? h6
  have hay : a ≠ y := (List.nodup_append.1 (List.nodup_append.1 h1).2.1).2.2 a hag y (by simp)
  exact (link20 (h.below hb) (h2 a (by simp [hag])) (h2 y (by simp)) hay hM.pinv).mono (fun e w' ⟨r1, r2, r3⟩ => ⟨r1, ⟨_, _, hM, r2⟩, (Fr.of_below hb).trans r3⟩)

theorem build_any (s now : Int) (P : Nat → Int) (n : Nat) (op oi : Option Addr) (cp ci : Nat) (ord : List Nat) (w : World) (hn : n ≤ 4096) (hp : PrR w.heap.size P w op n) (hi : IdR ord w oi) (hl : ord.length = n) (hd : ord.Nodup) (hlt : ∀ x, x ∈ ord → x < n) (hs : Book.SortedO (decide (s = 0)) P ord) :
    Calls Try.prog 8 #[.int .u8 s, .slice op n cp, .slice oi n ci] w fun e w' => e = .returned (.tuple #[.pointer (some ⟨w.heap.size, 0, none⟩), .slice (some ⟨w.heap.size + 1, 0, none⟩) n n]) ∧
      (∃ pv nx gs lbs lv, Inv (cfgAt w.heap.size n s now P) ord (fun _ => false) (fun _ => false) pv nx gs lbs lv w') ∧ OrR (w.heap.size + 2) w' (some ⟨w.heap.size + 1, 0, none⟩) n ∧ Fr w.heap.size w w' := by
  have hmk := run_make_row' (P := Try.prog) 28 32 (.pointer none) 8 Try.underlying28 Try.info32 rfl .i64 .i64 n (by omega) (by omega)
  have HP := hid hp
  have HI := hid hi
  have HORD := hid (And.intro hl (And.intro hd (And.intro hlt hs)))
  clear hp hi hl hd hlt hs
  have HM0 := hid (Made.start (cfgAt w.heap.size n s now P) w rfl rfl)
  have HST : Hid (∀ wr i, Made (cfgAt w.heap.size n s now P) wr i → Made (cfgAt w.heap.size n s now P) ((wr.alloc (.cells (ordC (cfgAt w.heap.size n s now P) false none none i) 47 (0, 0))).setCell ⟨w.heap.size + 1, i, none⟩ (.pointer (some ⟨wr.heap.size, 0, none⟩))) (i + 1)) := hid (fun wr i h => h.step rfl)
  go_enter Try.func8, Try.ntmps8
  go_wp2_with ((go_at_call 16; refine (newBook_any _).mono ?_; rintro e w' ⟨rfl, hw⟩; subst hw))
  go_loopw [10] (fun iv wr => ∃ i : Nat, i ≤ n ∧ iv = .int .i64 i ∧ Made (cfgAt w.heap.size n s now P) wr i ∧ Below w.heap.size w wr) (fun iv _ => n - (intOf iv).toNat)
  case atStart => exact ⟨0, Nat.zero_le _, rfl, HM0.out, ((Below.refl _ _).alloc (Nat.le_refl _) _).alloc (by simp) _⟩
  case round =>
    obtain ⟨i, hi, rfl, hm, hbel⟩ := hrel
    by_cases hlt : i < n
    · obtain ⟨bp, off, rfl, cbp⟩ := (HP.out.fr hbel).at hlt
      have i1 : (0 : Int) ≤ (i : Int) := Int.natCast_nonneg _
      have i2 : (i : Int) < (n : Int) := by omega
      have hc1 : ∀ o, (wr.alloc o).cell? ⟨w.heap.size + 1, i, none⟩ = some (.pointer none) := fun o => (hm.cells hlt o).1
      have hc2 : ∀ o, (wr.alloc o).frozen? ⟨w.heap.size + 1, i, none⟩ = false := fun o => (hm.cells hlt o).2
      have HM := hid hm
      have HBEL := hid hbel
      clear hm hbel
      go_wp2_with fail
      go_roundw
      case rel => exact ⟨i + 1, by omega, by go_num, HST.out _ _ HM.out, Below.setCell (p := ⟨w.heap.size + 1, i, none⟩) (HBEL.out.alloc (by have := HBEL.out.size; omega) _) (by simp) _⟩
      case measure => simp [intOf]; omega
    · obtain rfl : n = i := by omega
      have HI1 := hid (HI.out.fr (Fr.of_below (B0 := w.heap.size) hbel))
      have HP1 := hid (HP.out.fr hbel)
      have HOr : Hid (OrR (w.heap.size + 2) wr (some ⟨w.heap.size + 1, 0, none⟩) n) := hid (.inr ⟨_, rfl, hm.row.congr (fun t ht => by simp [show t < n from ht]; rfl)⟩)
      have HIN := hid (Inv.none (k := cfgAt w.heap.size n s now P) (Nat.le_refl _) (by show w.heap.size ≤ w.heap.size + 2; omega) hm.book hm.ords)
      have HFR : Hid (Fr w.heap.size w wr) := hid (Fr.of_below hbel)
      have hsz : w.heap.size ≤ wr.heap.size := hbel.size
      clear hm hbel HP HI HST HM0 hmk hi hlt
      obtain ⟨w1, hw1⟩ : ∃ w1, w1 = wr := ⟨_, rfl⟩
      subst hw1
      go_wp2_with fail
      go_loopw [11] (fun tv wr => ∃ (T : Nat) (A R : List Nat) (pv nx : Nat → Option Nat) (gs : List (List Nat)) (lbs : List Nat) (lv : Value), tv = .int .i64 T ∧ Hid (T = A.length ∧ ord = A ++ R ∧ Book.Out (decide (s = 0)) n P A R pv nx gs) ∧ Hid (Inv (cfgAt w.heap.size n s now P) A (fun _ => false) (fun _ => false) pv nx gs lbs lv wr) ∧ Hid (Fr w.heap.size w1 wr)) (fun tv _ => n - (intOf tv).toNat)
      case atStart => exact ⟨0, [], ord, _, _, _, _, _, rfl, ⟨rfl, rfl, Book.Out.first⟩, HIN.out, Fr.refl _ _⟩
      case round =>
        obtain ⟨T, A, R, pv, nx, gs, lbs, lv, rfl, HA, HINV, HF⟩ := hrel
        cases R with
        | nil =>
          obtain ⟨e1, e2, _⟩ := HA.out
          obtain rfl : T = n := by rw [e1, ← HORD.out.1, e2]; simp
          have HE := hid e2
          clear e1 e2
          go_wp2_with fail
          go_ret2
          refine ⟨rfl, ⟨pv, nx, gs, lbs, lv, ?_⟩, HOr.out.fr HF.out, HFR.out.trans HF.out⟩
          have e := HE.out
          rw [List.append_nil] at e
          rw [e]
          exact HINV.out
        | cons x R1 =>
          have hT : T < n := by rw [HA.out.1, ← HORD.out.1, HA.out.2.1]; simp
          have hgx : ord.getD T 0 = x := by rw [HA.out.2.1, HA.out.1]; simp
          have hxo : x ∈ ord := by rw [HA.out.2.1]; simp
          have hxn : x < n := HORD.out.2.2.1 x hxo
          obtain ⟨di, rfl, ci1⟩ := (HI1.out.fr HF.out).at (show T < ord.length by rw [HORD.out.1]; exact hT)
          rw [hgx] at ci1
          obtain ⟨do1, e, co1⟩ := (HOr.out.fr HF.out).at hxn
          cases e
          have i1 : (0 : Int) ≤ (T : Int) := Int.natCast_nonneg _
          have i2 : (T : Int) < (n : Int) := by omega
          have i3 : (0 : Int) ≤ (x : Int) := Int.natCast_nonneg _
          have i4 : (x : Int) < (n : Int) := by omega
          clear hgx hxo
          go_wp2_with fail
          go_loopw [13, 14] (fun tl uv wq => ∃ (U a : Nat) (g R : List Nat) (pv nx : Nat → Option Nat), tl = .pointer (some ⟨w.heap.size + 2 + a, 0, none⟩) ∧ uv = .int .i64 U ∧ U ≤ n ∧ T < U ∧ Hid (U = T + g.length ∧ x :: R1 = g ++ R ∧ g.getLast? = some a ∧ Book.Mid (decide (s = 0)) n P A g R pv nx gs) ∧ Hid (Inv (cfgAt w.heap.size n s now P) A (fun _ => false) (fun _ => false) pv nx gs lbs lv wq) ∧ Hid (Fr w.heap.size w1 wq)) (fun _ uv _ => n - (intOf uv).toNat)
          case atStart => exact ⟨T + 1, x, [x], R1, pv, nx, by rfl, by go_num, by omega, by omega, ⟨rfl, rfl, rfl, HA.out.2.2.mid⟩, HINV, HF⟩
          case round =>
            obtain ⟨U, a, g, R, pv2, nx2, rfl, rfl, hU, hTU, HG, HINV2, HF2⟩ := hrel
            clear ci1 co1
            obtain ⟨di2, e, ci1⟩ := (HI1.out.fr HF2.out).at (show T < ord.length by rw [HORD.out.1]; exact hT)
            cases e
            rw [show ord.getD T 0 = x by rw [HA.out.2.1, HA.out.1]; simp] at ci1
            obtain ⟨bp, off, rfl, cp1⟩ := (HP1.out.fr (HF2.out.below hsz)).at hxn
            have HOUT : Hid (∀ q : (R = [] ∨ P (R.headD 0) ≠ P x), Book.Out (decide (s = 0)) n P (A ++ g) R pv2 nx2 (gs ++ [g])) := hid (fun q => mid_out HORD.out.2.1 HORD.out.2.2.1 HORD.out.2.2.2 HA.out.2.1 HG.out.2.1 HG.out.2.2.1 HG.out.2.2.2 q)
            have HL21 : Hid (∀ (m : Nat) (q : (R = [] ∨ P (R.headD 0) ≠ P x)), Calls Try.prog 21 #[.pointer (some ⟨w.heap.size, 0, none⟩), .int .u8 s, .int .i64 (P x), .pointer (some ⟨w.heap.size + 2 + x, 0, none⟩), .pointer (some ⟨w.heap.size + 2 + a, 0, none⟩)] (wr.drewN m) fun e w' => e = .returned (.tuple #[]) ∧ (∃ lbs' lv', Inv (cfgAt w.heap.size n s now P) (A ++ g) (fun _ => false) (fun _ => false) pv2 nx2 (gs ++ [g]) lbs' lv' w') ∧ Fr w.heap.size wr w') :=
              hid (fun m q => add21 HINV2.out HG.out.2.1 HG.out.2.2.1 (HOUT.out q).pinv m (by have := HORD.out.1; rw [HA.out.2.1] at this; simp at this; omega))
            have HLEN : Hid (A.length + (x :: R1).length = n) := hid (by rw [← List.length_append, ← HA.out.2.1, HORD.out.1])
            by_cases hUn : U = n
            · have hR : R = [] := by
                have h1 := HLEN.out
                have h2 := HA.out.1
                have h3 := HG.out.1
                rw [HG.out.2.1, List.length_append] at h1
                exact List.length_eq_zero_iff.1 (by omega)
              have HR := hid hR
              clear hR
              subst hUn
              have g0 : decide ((U : Int) < (U : Int)) = false := by simp
              go_wp2_with fail
              go_quiet (fail)
              go_wp2_with (go_at_call 21; refine Calls.mono (HL21.out _ (.inl HR.out)) ?_; rintro e w' ⟨rfl, hi2, hf2⟩; have HI2 := hid hi2; have HF3 := hid hf2; clear hi2 hf2)
              go_roundw
              case rel =>
                obtain ⟨lbs', lv', hI⟩ := HI2.out
                exact ⟨U, A ++ g, R, pv2, nx2, gs ++ [g], lbs', lv', rfl, ⟨by rw [List.length_append, ← HA.out.1]; exact HG.out.1, by rw [List.append_assoc, ← HG.out.2.1]; exact HA.out.2.1, HOUT.out (.inl HR.out)⟩, hI, HF2.out.trans HF3.out⟩
              case measure => simp [intOf]; omega
            · have hUlt : U < n := by omega
              obtain ⟨y, R2, hR⟩ : ∃ y R2, R = y :: R2 := by
                cases R with
                | nil =>
                  have h1 := HLEN.out
                  have h2 := HA.out.1
                  have h3 := HG.out.1
                  rw [HG.out.2.1, List.length_append] at h1
                  simp at h1
                  omega
                | cons y R2 => exact ⟨y, R2, rfl⟩
              subst hR
              have HEQ : Hid (ord = (A ++ g) ++ y :: R2) := hid (by rw [List.append_assoc, ← HG.out.2.1]; exact HA.out.2.1)
              have hgy : ord.getD U 0 = y := by rw [HEQ.out, HG.out.1, HA.out.1, ← List.length_append]; simp
              have hyn : y < n := HORD.out.2.2.1 y (by rw [HEQ.out]; simp)
              obtain ⟨di2, e, ci2⟩ := (HI1.out.fr HF2.out).at (show U < ord.length by rw [HORD.out.1]; exact hUlt)
              cases e
              rw [hgy] at ci2
              obtain ⟨bp2, off2, e, cp2⟩ := (HP1.out.fr (HF2.out.below hsz)).at hyn
              cases e
              obtain ⟨do1, e, co2⟩ := (HOr.out.fr HF2.out).at hyn
              cases e
              have j1 : (0 : Int) ≤ (U : Int) := Int.natCast_nonneg _
              have j2 : (U : Int) < (n : Int) := by omega
              have j3 : (0 : Int) ≤ (y : Int) := Int.natCast_nonneg _
              have j4 : (y : Int) < (n : Int) := by omega
              have g0 : decide ((U : Int) < (n : Int)) = true := by simp; omega
              clear hgy
              by_cases hpe : P y = P x
              · have HL20 : Hid (∀ m : Nat, Calls Try.prog 20 #[.pointer (some ⟨w.heap.size + 2 + a, 0, none⟩), .pointer (some ⟨w.heap.size + 2 + y, 0, none⟩)] (wr.drewN m) fun e w' => e = .returned (.tuple #[]) ∧ (∃ pv3 nx3, Book.Mid (decide (s = 0)) n P A (g ++ [y]) R2 pv3 nx3 gs ∧ Inv (cfgAt w.heap.size n s now P) A (fun _ => false) (fun _ => false) pv3 nx3 gs lbs lv w') ∧ Fr w.heap.size wr w') :=
                  hid (fun m => link_mid (k := cfgAt w.heap.size n s now P) HINV2.out HORD.out.2.1 HORD.out.2.2.1 HA.out.2.1 HG.out.2.1 HG.out.2.2.1 HG.out.2.2.2 hpe m)
                go_wp2_with fail
                go_quiet (fail)
                go_wp2_with (go_at_call 20; refine Calls.mono (HL20.out _) ?_; rintro e w' ⟨rfl, hi2, hf2⟩; have HI2 := hid hi2; have HF3 := hid hf2; clear hi2 hf2)
                go_roundw
                case rel =>
                  obtain ⟨pv3, nx3, hM, hI⟩ := HI2.out
                  exact ⟨U + 1, y, g ++ [y], R2, pv3, nx3, by rfl, by go_num, by omega, by omega, ⟨by rw [List.length_append, HG.out.1]; simp; omega, by rw [HG.out.2.1]; simp, by simp, hM⟩, hI, HF2.out.trans HF3.out⟩
                case measure => simp [intOf]; omega
              · have HR : Hid (P ((y :: R2).headD 0) ≠ P x) := hid hpe
                have hpe2 : (P y == P x) = false := by simp [hpe]
                go_wp2_with fail
                go_quiet (fail)
                go_wp2_with (go_at_call 21; refine Calls.mono (HL21.out _ (.inr HR.out)) ?_; rintro e w' ⟨rfl, hi2, hf2⟩; have HI2 := hid hi2; have HF3 := hid hf2; clear hi2 hf2)
                go_roundw
                case rel =>
                  obtain ⟨lbs', lv', hI⟩ := HI2.out
                  exact ⟨U, A ++ g, y :: R2, pv2, nx2, gs ++ [g], lbs', lv', rfl, ⟨by rw [List.length_append, ← HA.out.1]; exact HG.out.1, HEQ.out, HOUT.out (.inr HR.out)⟩, hI, HF2.out.trans HF3.out⟩
                case measure => simp [intOf]; omega
end Go.Proofs.Qxb6612266a
