/-
  The level that loses its last order goes; (*ladder).remove walked.
-/
import Derived.Test.Qxb6612266aRem
namespace Go.Proofs.Qxb6612266a
open Go.RowKit
set_option linter.unusedSimpArgs false

variable {k : Cfg} {ord : List Nat} {gone sf : Nat → Bool} {pv nx : Nat → Option Nat} {gs : List (List Nat)} {lbs : List Nat} {lv : Value} {w : World}

theorem getD_low {α : Type} (A B : List α) (g d : α) (j : Nat) (h : j < A.length) : (A ++ B).getD j d = (A ++ g :: B).getD j d := by
  simp [List.getElem?_append_left h]
theorem getD_high {α : Type} (A B : List α) (g d : α) (j : Nat) (h : A.length ≤ j) : (A ++ B).getD j d = (A ++ g :: B).getD (j + 1) d := by
  obtain ⟨e, rfl⟩ : ∃ e, j = A.length + e := ⟨j - A.length, by omega⟩
  rw [show A.length + e + 1 = A.length + (e + 1) from by omega]
  simp [List.getElem?_append_right]

theorem split_at {α : Type} (l : List α) (j : Nat) (h : j < l.length) : ∃ A x B, l = A ++ x :: B ∧ A.length = j :=
  ⟨l.take j, l[j], l.drop (j + 1), by rw [← List.drop_eq_getElem_cons h, List.take_append_drop], by simp; omega⟩

/-- (B) The level loses its last. -/
theorem Inv.rem_drop {G1 : List (List Nat)} {i0 : Nat} {G2 : List (List Nat)} {L1 : List Nat} {L : Nat} {L2 : List Nat} {lb cap : Nat} {f' f : Nat → Value} {W2 : World}
    (h : Inv k ord gone sf pv nx (G1 ++ [i0] :: G2) (L1 ++ L :: L2) lv w) (hl1 : L1.length = G1.length) (hl2 : L2.length = G2.length) (hB : k.B0 ≤ lb) (hcap : L1.length + L2.length < cap) (hmax : cap ≤ 9223372036854775807) (hrow0 : w.rowIs lb 74 cap f)
    (hf : ∀ j, j < (L1 ++ L :: L2).length → f j = .pointer (some ⟨(L1 ++ L :: L2).getD j 0, 0, none⟩))
    (hK2 : Kp (· = lb) (lrem w L (k.c + i0) none none) W2) (hrow : W2.rowIs lb 74 cap f') (g1 : ∀ j, j < G1.length → f' j = f j) (g2 : ∀ j, G1.length ≤ j → j < L1.length + L2.length → f' j = f (j + 1)) :
    Inv k ord (fun i => if i = i0 then true else gone i) sf (Book.pvR pv nx i0) (Book.nxR pv nx i0) (Book.remG G1 [] [] G2) (L1 ++ L2) (.slice (some ⟨lb, 0, none⟩) (L1.length + L2.length) cap) (W2.setCell ⟨k.kb, k.off + 1, none⟩ (.slice (some ⟨lb, 0, none⟩) (L1.length + L2.length) cap)) ∧
    Fr k.B0 w (W2.setCell ⟨k.kb, k.off + 1, none⟩ (.slice (some ⟨lb, 0, none⟩) (L1.length + L2.length) cap)) := by
  have h' : Inv k ord gone sf pv nx (G1 ++ ([] ++ i0 :: []) :: G2) (L1 ++ L :: L2) lv w := h
  obtain ⟨n1, n2, n3, n4, n5, n6⟩ := neigh h'.pure
  simp at n1 n2
  have hj0 : G1.length < (G1 ++ [i0] :: G2).length := by simp
  have eL : (L1 ++ L :: L2).getD G1.length 0 = L := by rw [← hl1, getD_mid]
  have hL := h.lvl G1.length hj0
  rw [getD_mid, eL] at hL
  obtain ⟨_, b2, b3⟩ := lrem_blocks k sf pv nx L i0 _ _ _ w hL h.ords n3 n4 n5 n6
  rw [n1, n2] at b2 b3
  simp only [Option.map_none] at b2 b3
  have b3' : Kp (fun b => b = (L1 ++ L :: L2).getD G1.length 0 ∨ ∃ i, i < k.n ∧ b = k.c + i) w (lrem w L (k.c + i0) none none) := by rw [eL]; exact b3
  obtain ⟨f1, f2, f3, f4⟩ := rem_frame h' b3'
  obtain ⟨crow, hcrow, _⟩ := hrow0
  -- the row of levels lies apart
  have hlbne : ∀ b cs t, (lrem w L (k.c + i0) none none).heap[b]? = some (.cells cs t (0, 0)) → t ≠ 74 → b ≠ lb := by
    rintro b cs t hb ht rfl
    have e := b3.block b (lt_of_block hcrow) (by
      rintro (e | ⟨i, hi, e⟩)
      · rw [e, hL] at hcrow; simp at hcrow
      · rw [e, h.ords i hi] at hcrow; simp at hcrow)
    rw [e, hcrow] at hb
    simp at hb
    exact ht hb.2.symm
  have keep : ∀ (b : Nat) (cs : Array Value) (t : TypeId), (lrem w L (k.c + i0) none none).heap[b]? = some (Obj.cells cs t (0, 0)) → t ≠ 74 → t ≠ 72 → (W2.setCell ⟨k.kb, k.off + 1, none⟩ (.slice (some ⟨lb, 0, none⟩) (L1.length + L2.length) cap)).heap[b]? = some (Obj.cells cs t (0, 0)) := by
    intro b cs t hb h1 h2
    rw [blk_set_ne (by show b ≠ k.kb; rintro rfl; rw [f1] at hb; simp at hb; exact h2 hb.2.symm), hK2.block b (lt_of_block hb) (hlbne b cs t hb h1)]
    exact hb
  have hbk := hK2.block _ (lt_of_block f1) (hlbne _ _ _ f1 (by decide))
  have hndL := h.nodL
  refine ⟨⟨h.base1, h.base2, ?_, ?_, ?_, ?_, ?_, ?_, ?_, h'.pure.remove⟩, ?_⟩
  · rw [hs_same, hbk, f1]
    simp only [Option.map_some, objSet, book_set]
  · refine .inr ⟨lb, cap, f', by simp, hB, by simp; omega, hmax, hrow.setOther (by
      show lb ≠ k.kb
      obtain ⟨c2, hc2, _⟩ := hrow
      rintro rfl
      rw [hbk, f1] at hc2
      simp at hc2) _, fun j hj => ?_⟩
    simp at hj
    rcases Nat.lt_or_ge j G1.length with h1 | h1
    · rw [g1 j h1, hf j (by simp; omega), getD_low L1 L2 L 0 j (by omega)]
    · rw [g2 j h1 (by omega), hf (j + 1) (by simp; omega), getD_high L1 L2 L 0 j (by omega)]
  · simp [Book.remG, hl1, hl2]
  · intro j hj
    have er : Book.remG G1 [] [] G2 = G1 ++ G2 := if_pos rfl
    rw [er] at hj ⊢
    simp at hj
    rcases Nat.lt_or_ge j G1.length with h1 | h1
    · rw [getD_low L1 L2 L 0 j (by omega), getD_low G1 G2 [i0] [] j h1]
      exact keep _ _ _ (f3 j (by simp; omega) (by omega)) (by decide) (by decide)
    · rw [getD_high L1 L2 L 0 j (by omega), getD_high G1 G2 [i0] [] j h1]
      exact keep _ _ _ (f3 (j + 1) (by simp; omega) (by omega)) (by decide) (by decide)
  · intro b hb
    exact h.baseL b (by
      rw [List.mem_append] at hb
      rw [List.mem_append, List.mem_cons]
      rcases hb with a | a
      · exact .inl a
      · exact .inr (.inr a))
  · have h1 := List.nodup_append.1 hndL
    exact List.nodup_append.2 ⟨h1.1, (List.nodup_cons.1 h1.2.1).2, fun a ha b hb => h1.2.2 a ha b (by simp only [List.mem_cons]; exact .inr hb)⟩
  · intro i hi
    exact keep _ _ _ (b2 i hi) (by decide) (by decide)
  · refine f4.trans ((Fr.of_kp hK2 ?_).trans (Fr.of_kp ((Kp.refl (· = k.kb) _).setCell _ rfl) ?_))
    · rintro b _ rfl
      have e := b3.block b (lt_of_block hcrow) (by
        rintro (e | ⟨i, hi, e⟩)
        · rw [e, hL] at hcrow; simp at hcrow
        · rw [e, h.ords i hi] at hcrow; simp at hcrow)
      exact ⟨hB, _, 74, e.trans hcrow, by simp⟩
    · rintro b _ rfl
      exact ⟨h.base1, _, 72, hbk.trans f1, by simp⟩

theorem row_rem {G1 : List (List Nat)} {g : List Nat} {G2 : List (List Nat)} (h : Inv k ord gone sf pv nx (G1 ++ g :: G2) lbs lv w) {W : World} {lb cap : Nat} {f : Nat → Value}
    (hK : Kp (fun b => b = lbs.getD G1.length 0 ∨ ∃ i, i < k.n ∧ b = k.c + i) w W) (hr : w.rowIs lb 74 cap f) : W.rowIs lb 74 cap f := by
  refine hr.of_block (hK.block _ hr.lt ?_)
  obtain ⟨c, hc, _⟩ := hr
  rintro (e | ⟨i, hi, e⟩)
  · rw [e, h.lvl G1.length (by simp)] at hc; simp at hc
  · rw [e, h.ords i hi] at hc; simp at hc

theorem ptr_map (k : Cfg) (o : Option Nat) : k.ptr o = ptrB (o.map (k.c + ·)) := by cases o <;> rfl

set_option maxHeartbeats 1600000 in
set_option maxRecDepth 100000 in
/-- (*ladder).remove of an order that rests. -/
theorem remove23 (i0 : Nat) (h : Inv k ord gone sf pv nx gs lbs lv w) (hi : i0 ∈ gs.flatten) (hord : ord.length ≤ 4096) :
    Calls Try.prog 23 #[.pointer (some ⟨k.kb, k.off, none⟩), .pointer (some ⟨k.c + i0, 0, none⟩)] w fun e w' => e = .returned (.tuple #[]) ∧
      (∃ gs' lbs' lv', Inv k ord (fun i => if i = i0 then true else gone i) sf (Book.pvR pv nx i0) (Book.nxR pv nx i0) gs' lbs' lv' w') ∧ Fr k.B0 w w' := by
  obtain ⟨G1, X, Y, G2, rfl⟩ := Book.find_group hi
  obtain ⟨n1, n2, n3, n4, n5, n6⟩ := neigh h.pure
  have hglen := gs_len h
  have hj0 : G1.length < lbs.length := by rw [h.len]; simp
  obtain ⟨lb, cap, f, hlv, hB, hlc, hmax, hrow, hf⟩ : ∃ lb cap f, lv = .slice (some ⟨lb, 0, none⟩) lbs.length cap ∧ k.B0 ≤ lb ∧ lbs.length ≤ cap ∧ cap ≤ 9223372036854775807 ∧ w.rowIs lb 74 cap f ∧ ∀ j, j < lbs.length → f j = .pointer (some ⟨lbs.getD j 0, 0, none⟩) := by
    rcases h.lev with ⟨e, _⟩ | l
    · rw [e] at hj0; simp at hj0
    · exact l
  obtain ⟨L1, L, L2, rfl, hl1⟩ := split_at lbs G1.length hj0
  have hl2 : L2.length = G2.length := by have := h.len; simp [hl1] at this; omega
  obtain ⟨M, hM⟩ : ∃ M, M = L1.length + L2.length := ⟨_, rfl⟩
  have hMl : (L1 ++ L :: L2).length = M + 1 := by simp; omega
  rw [hMl] at hlv hlc hj0 hf
  have eL : (L1 ++ L :: L2).getD G1.length 0 = L := by rw [← hl1, getD_mid]
  subst hlv
  obtain ⟨bk1, bk2, bk3⟩ := book_cells h.book
  have hcs : ∀ j, j < M + 1 → w.cell? ⟨lb, j, none⟩ = some (.pointer (some ⟨(L1 ++ L :: L2).getD j 0, 0, none⟩)) := fun j hj => by rw [hrow.cell (by omega), hf j hj]
  have hgl : (G1 ++ (X ++ i0 :: Y) :: G2).length = M + 1 := by rw [← h.len, hMl]
  have hpr : ∀ j, j < M + 1 → w.cell? ⟨(L1 ++ L :: L2).getD j 0, 0, none⟩ = some (.int .i64 (k.P (((G1 ++ (X ++ i0 :: Y) :: G2).getD j []).headD 0))) := fun j hj => (cf (h.lvl j (by omega))).1
  have hp0 : k.P i0 = k.P ((X ++ i0 :: Y).headD 0) := h.pure.one _ (by simp) i0 (by simp)
  have HS := hid (search30 k.kb k.off lb (M + 1) cap G1.length k.bids (k.P i0) (fun j => k.P (((G1 ++ (X ++ i0 :: Y) :: G2).getD j []).headD 0)) (fun j => (L1 ++ L :: L2).getD j 0) w (by omega) hj0 bk1 bk2 hcs hpr
    (fun j hj => by rw [hp0]; exact better_iff h.pure.sorted j (by omega)) (by rw [hp0, getD_mid]))
  have o3 : w.cell? ⟨k.c + i0, 3, none⟩ = some (.int .i64 (k.P i0)) := (cf (h.ords i0 n3)).1
  have HI := hid h
  have HROW := hid hrow
  have HF := hid hf
  have N1 := hid n1
  have N2 := hid n2
  have N4 := hid n4
  have N5 := hid n5
  have N6 := hid n6
  have HM := hid hM
  have HML := hid hMl
  have EL := hid eL
  have HL1 := hid hl1
  have HL2 := hid hl2
  have HGL := hid hgl
  clear hcs hpr bk1 bk2 bk3 hf hrow hi h hp0 n1 n2 n4 n5 n6 hM hMl eL hl1 hl2 hgl hglen
  go_enter Try.func23, Try.ntmps23
  go_wp2_with fail
  refine Calls.mono HS.out ?_
  rintro e w1 ⟨rfl, hb1⟩
  have H1 := hid (HI.out.below hb1)
  have HROW1 := hid (HROW.out.of_block (hb1.block _ HROW.out.lt))
  obtain ⟨_, bk2, _⟩ := book_cells H1.out.book
  have q1 : w1.cell? ⟨lb, G1.length, none⟩ = some (.pointer (some ⟨L, 0, none⟩)) := by rw [HROW1.out.cell (by omega), HF.out _ (by omega), EL.out]
  have hLb : w1.heap[L]? = some (.cells (lvlC k (X ++ i0 :: Y)) 76 (0, 0)) := by
    have := H1.out.lvl G1.length (by rw [HGL.out]; omega)
    rwa [getD_mid, EL.out] at this
  have hLne : ∀ i, i < k.n → L ≠ k.c + i := fun i hi => ne_of_type hLb (H1.out.ords i hi) (by decide)
  have HLR := hid (lremove_any L (k.c + i0) ((pv i0).map (k.c + ·)) ((nx i0).map (k.c + ·)) w1 ⟨_, (cf hLb).1⟩ (cf hLb).2 ⟨_, (cf hLb).1⟩ (cf hLb).2
    ((cf (H1.out.ords i0 n3)).1.trans (by rw [← ptr_map]; rfl)) (cf (H1.out.ords i0 n3)).2 ((cf (H1.out.ords i0 n3)).1.trans (by rw [← ptr_map]; rfl)) (cf (H1.out.ords i0 n3)).2
    (fun a ha => by
      obtain ⟨x, hx, rfl⟩ := Option.map_eq_some_iff.1 ha
      obtain ⟨h1, h2⟩ := N4.out x hx
      exact ⟨⟨_, (cf (H1.out.ords x h1)).1⟩, (cf (H1.out.ords x h1)).2, by omega, (hLne x h1).symm⟩)
    (fun b hb => by
      obtain ⟨x, hx, rfl⟩ := Option.map_eq_some_iff.1 hb
      obtain ⟨h1, h2⟩ := N5.out x hx
      exact ⟨⟨_, (cf (H1.out.ords x h1)).1⟩, (cf (H1.out.ords x h1)).2, by omega, (hLne x h1).symm⟩)
    (fun a b ha hb => by
      obtain ⟨x, hx, rfl⟩ := Option.map_eq_some_iff.1 ha
      obtain ⟨y, hy, rfl⟩ := Option.map_eq_some_iff.1 hb
      have := N6.out x y hx hy
      omega)
    (hLne i0 n3))
  have HLB := hid hLb
  have HB1 := hid hb1
  have i1 : (0 : Int) ≤ (G1.length : Int) := Int.natCast_nonneg _
  have i2 : (G1.length : Int) < (M : Int) + 1 := by omega
  clear hLb hLne hb1
  go_wp2_with fail
  refine Calls.mono HLR.out ?_
  rintro e w2 ⟨rfl, nd, rfl⟩
  obtain ⟨b1, b2, b3⟩ := lrem_blocks k sf pv nx L i0 _ _ _ w1 HLB.out H1.out.ords n3 N4.out N5.out N6.out
  by_cases hne : X ++ Y = []
  · obtain ⟨rfl, rfl⟩ := List.append_eq_nil_iff.1 hne
    have z1 : pv i0 = none := N1.out
    have z2 : nx i0 = none := N2.out
    rw [z1, z2] at b1 b2 b3
    rw [z1, z2]
    simp only [Option.map_none] at b1 b2 b3 ⊢
    have hK3 : Kp (fun b => b = (L1 ++ L :: L2).getD G1.length 0 ∨ ∃ i, i < k.n ∧ b = k.c + i) w1 (lrem w1 L (k.c + i0) none none) := by rw [EL.out]; exact b3
    have hrowW := row_rem H1.out hK3 HROW1.out
    obtain ⟨fr1, _, _, _⟩ := rem_frame H1.out hK3
    obtain ⟨_, bw2, bw3⟩ := book_cells fr1
    have HD := hid (fun n => delete_any lb M cap G1.length f ((lrem w1 L (k.c + i0) none none).drewN n) (by omega) (by omega) hmax hrowW (fun j hj => by rw [HF.out j (by omega)]; rfl))
    have HDR := hid (fun W2 f' hK2 hr g1 g2 => H1.out.rem_drop (lb := lb) (cap := cap) (f' := f') (f := f) (W2 := W2) HL1.out HL2.out hB (by have := HM.out; omega) hmax HROW1.out (fun j hj => HF.out j (by rw [← HML.out]; exact hj)) hK2 hr g1 g2)
    have hlbkb : lb ≠ k.kb := by
      obtain ⟨c, hc, _⟩ := hrowW
      exact ne_of_type hc fr1 (by decide)
    have hc1 : (lrem w1 L (k.c + i0) none none).cell? ⟨L, 1, none⟩ = some (.pointer none) := (cf b1).1
    have FR1 := hid fr1
    clear b1 b2 b3 z1 z2 hK3 hrowW fr1
    generalize lrem w1 L (k.c + i0) none none = W at *
    go_wp2_with fail
    refine Calls.mono (HD.out nd) ?_
    rintro e w3 ⟨rfl, ⟨f', hr', g1, g2⟩, hk3⟩
    have hk3' : Kp (· = lb) W w3 := ⟨hk3.os, hk3.tape, hk3.output, hk3.size, hk3.block⟩
    have hbk3 := hk3'.block _ (lt_of_block FR1.out) (Ne.symm hlbkb)
    have DR := hid (HDR.out w3 f' hk3' hr' g1 (fun j h1 h2 => g2 j h1 (by have := HM.out; omega)))
    rw [← HM.out] at DR
    have v2 : w3.cell? ⟨k.kb, k.off + 1, none⟩ = some (.slice (some ⟨lb, 0, none⟩) (M + 1) cap) := (World.cell?_of_block (w := W) hbk3).trans bw2
    have v3 : w3.frozen? ⟨k.kb, k.off + 1, none⟩ = false := (World.frozen?_of_block (w := W) hbk3).trans bw3
    clear hk3 hk3' hbk3 hr' g1 g2
    go_wp2_with fail
    go_end0
    exact ⟨rfl, ⟨_, _, _, DR.out.1⟩, (Fr.of_below HB1.out).trans DR.out.2⟩
  · have hK := hid (H1.out.rem_keep hne)
    rw [EL.out] at hK
    rw [lvl_after N1.out N2.out (H1.out.pure.one _ (by simp)) hne] at b1
    have hc1 : (lrem w1 L (k.c + i0) ((pv i0).map (k.c + ·)) ((nx i0).map (k.c + ·))).cell? ⟨L, 1, none⟩ = some (.pointer (some ⟨k.c + (X ++ Y).headD 0, 0, none⟩)) := by
      rw [(cf b1).1]
      cases hxy : X ++ Y with
      | nil => exact absurd hxy hne
      | cons a r => rfl
    generalize lrem w1 L (k.c + i0) ((pv i0).map (k.c + ·)) ((nx i0).map (k.c + ·)) = W at *
    clear b1 b2 b3
    go_wp2_with fail
    go_end0
    exact ⟨rfl, ⟨_, _, _, hK.out.1.below ⟨rfl, rfl, rfl, Nat.le_refl _, fun _ _ => rfl⟩⟩, (Fr.of_below HB1.out).trans (hK.out.2.trans ⟨rfl, rfl, rfl, Nat.le_refl _, fun _ _ _ => rfl⟩)⟩
end Go.Proofs.Qxb6612266a
