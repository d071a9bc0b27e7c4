/-
  zzLadderIs walked.
-/
import Derived.Test.Qxb6612266aOrdersAre
import Derived.Test.Qxb6612266aPos
import Derived.Laws.Pointers
import Derived.LaidEqlPtr
namespace Go.Proofs.Qxb6612266a
open Go.RowKit
set_option linter.unusedSimpArgs false

variable {k : Cfg} {ord : List Nat} {gone : Nat → Bool} {pv nx : Nat → Option Nat} {gs : List (List Nat)} {lbs : List Nat} {lv : Value} {w : World}

theorem drop_filter_gone {ord : List Nat} {gone : Nat → Bool} {T : Nat} (hT : T < ord.length) (hg : gone (ord.getD T 0) = true) : (ord.drop (T + 1)).filter (fun i => !gone i) = (ord.drop T).filter (fun i => !gone i) := by
  have e : ord.getD T 0 = ord[T] := by simp [hT]
  rw [e] at hg
  rw [List.drop_eq_getElem_cons hT, List.filter_cons]
  simp [hg]
theorem drop_filter_alive {ord : List Nat} {gone : Nat → Bool} {T : Nat} (hT : T < ord.length) (hg : gone (ord.getD T 0) = false) : (ord.drop T).filter (fun i => !gone i) = ord.getD T 0 :: (ord.drop (T + 1)).filter (fun i => !gone i) := by
  have e : ord.getD T 0 = ord[T] := by simp [hT]
  rw [e] at hg ⊢
  rw [List.drop_eq_getElem_cons hT, List.filter_cons]
  simp [hg]

/-- Level j in memory, as the readers want it. -/
theorem lvl_cells (h : Inv k ord gone gone pv nx gs lbs lv w) {lb cap : Nat} {f : Nat → Value} (hrow : w.rowIs lb 74 cap f) (hl : gs.length ≤ cap) (hf : ∀ j, j < gs.length → f j = .pointer (some ⟨lbs.getD j 0, 0, none⟩)) {j : Nat} (hj : j < gs.length) :
    w.cell? ⟨lb, j, none⟩ = some (.pointer (some ⟨lbs.getD j 0, 0, none⟩)) ∧ w.cell? ⟨lbs.getD j 0, 0, none⟩ = some (.int .i64 (k.P ((gs.getD j []).headD 0))) ∧ w.cell? ⟨lbs.getD j 0, 1, none⟩ = some (k.ptr (gs.getD j []).head?) ∧ w.cell? ⟨lbs.getD j 0, 2, none⟩ = some (k.ptr (gs.getD j []).getLast?) :=
  ⟨by rw [hrow.cell (by omega), hf j hj], (cf (h.lvl j hj)).1, (cf (h.lvl j hj)).1, (cf (h.lvl j hj)).1⟩

theorem Try.info47 : ∃ j, Try.prog.info? 47 = some j ∧ j.size ≠ 0 := by
  have h : (Try.prog.info? 47).map (·.size) = some 17 := by kernel_rfl
  obtain ⟨j, h1, h2⟩ := Option.map_eq_some_iff.1 h
  exact ⟨j, h1, by omega⟩

theorem neq_same (a : Addr) (w : World) : (binOp .neq 32 (.pointer (some a)) (.pointer (some a))).run Try.prog w = .ok (.bool false) w := by
  obtain ⟨j, hj, hs⟩ := Try.info47
  have h : ∀ d : Nat, (Op.equalIn (d + 1) 32 (.pointer (some a)) (.pointer (some a))).run Try.prog w = .ok true w := fun d => by
    simp [Op.equalIn, run_underlying Try.underlying32, sizeOf, typeInfo, hj, run_sameAddr_same]
  simp only [binOp]
  simp [Op.equal, Op.maxDepth, h 9999]

theorem cell_heap {w W : World} (h : W.heap = w.heap) (a : Addr) : W.cell? a = w.cell? a := by unfold World.cell?; rw [h]

/-- The level readers, the index as the walk has it; in whatever world holds the same heap. -/
theorem price_i (kb off : Nat) (s : Int) (lb m cap j L : Nat) (v : Value) (w : World) (ho : offOf s = off) (h : w.cell? ⟨kb, off + 1, none⟩ = some (.slice (some ⟨lb, 0, none⟩) m cap)) (hj : j < m)
    (hl : w.cell? ⟨lb, j, none⟩ = some (.pointer (some ⟨L, 0, none⟩))) (hv : w.cell? ⟨L, 0, none⟩ = some v) (W : World) (hW : W.heap = w.heap) (jj : Int) (e : jj = (j : Int)) :
    Calls Try.prog 26 #[.pointer (some ⟨kb, 0, none⟩), .int .u8 s, .int .i64 jj] W fun e w' => e = .returned v ∧ w' = W := by
  subst e
  exact price_any kb off s lb m cap j L v W ho ((cell_heap hW _).trans h) hj ((cell_heap hW _).trans hl) ((cell_heap hW _).trans hv)
theorem head_i (kb off : Nat) (s : Int) (lb m cap j L : Nat) (v : Value) (w : World) (ho : offOf s = off) (h : w.cell? ⟨kb, off + 1, none⟩ = some (.slice (some ⟨lb, 0, none⟩) m cap)) (hj : j < m)
    (hl : w.cell? ⟨lb, j, none⟩ = some (.pointer (some ⟨L, 0, none⟩))) (hv : w.cell? ⟨L, 1, none⟩ = some v) (W : World) (hW : W.heap = w.heap) (jj : Int) (e : jj = (j : Int)) :
    Calls Try.prog 27 #[.pointer (some ⟨kb, 0, none⟩), .int .u8 s, .int .i64 jj] W fun e w' => e = .returned v ∧ w' = W := by
  subst e
  exact head_any kb off s lb m cap j L v W ho ((cell_heap hW _).trans h) hj ((cell_heap hW _).trans hl) ((cell_heap hW _).trans hv)
theorem tail_i (kb off : Nat) (s : Int) (lb m cap j L : Nat) (v : Value) (w : World) (ho : offOf s = off) (h : w.cell? ⟨kb, off + 1, none⟩ = some (.slice (some ⟨lb, 0, none⟩) m cap)) (hj : j < m)
    (hl : w.cell? ⟨lb, j, none⟩ = some (.pointer (some ⟨L, 0, none⟩))) (hv : w.cell? ⟨L, 2, none⟩ = some v) (W : World) (hW : W.heap = w.heap) (jj : Int) (e : jj = (j : Int)) :
    Calls Try.prog 24 #[.pointer (some ⟨kb, 0, none⟩), .int .u8 s, .int .i64 jj] W fun e w' => e = .returned v ∧ w' = W := by
  subst e
  exact tail_any kb off s lb m cap j L v W ho ((cell_heap hW _).trans h) hj ((cell_heap hW _).trans hl) ((cell_heap hW _).trans hv)
theorem next_i (b : Nat) (v : Value) (w : World) (h : w.cell? ⟨b, 16, none⟩ = some v) (W : World) (hW : W.heap = w.heap) : Calls Try.prog 25 #[.pointer (some ⟨b, 0, none⟩)] W fun e w' => e = .returned v ∧ w' = W := next_any b v W ((cell_heap hW _).trans h)
theorem prev_i (b : Nat) (v : Value) (w : World) (h : w.cell? ⟨b, 15, none⟩ = some v) (W : World) (hW : W.heap = w.heap) : Calls Try.prog 28 #[.pointer (some ⟨b, 0, none⟩)] W fun e w' => e = .returned v ∧ w' = W := prev_any b v W ((cell_heap hW _).trans h)

theorem quiet_plus {f : FuncId} {args : Array Value} {w : World} {m x : Nat} {v : Value} (h : Calls Try.prog f args (w.drewN (m + x)) fun e w' => e = .returned v ∧ w' = w.drewN (m + x)) :
    Calls Try.prog f args (w.drewN (m + x)) fun e w'' => e = .returned v ∧ ∃ n, w'' = w.drewN (m + n) := h.mono fun _ _ ⟨he, hm⟩ => ⟨he, x, hm⟩

/-- The row of levels, where there is one. -/
theorem lev_some (h : Inv k ord gone gone pv nx gs lbs lv w) (hp : 0 < gs.length) : ∃ lb cap f, w.cell? ⟨k.kb, k.off + 1, none⟩ = some (.slice (some ⟨lb, 0, none⟩) gs.length cap) ∧ gs.length ≤ cap ∧ w.rowIs lb 74 cap f ∧ ∀ j, j < gs.length → f j = .pointer (some ⟨lbs.getD j 0, 0, none⟩) := by
  obtain ⟨_, bk2, _⟩ := book_cells h.book
  rcases h.lev with ⟨e1, _⟩ | ⟨lb, cap, f, e, _, h3, _, h5, h6⟩
  · have := h.len; rw [e1] at this; simp at this; omega
  · rw [h.len] at e h3 h6
    exact ⟨lb, cap, f, by rw [bk2, e], h3, h5, h6⟩

theorem headD_of {g : List Nat} {i : Nat} (h : g.head? = some i) : g.headD 0 = i := by
  cases g with
  | nil => simp at h
  | cons a r => simpa using h

set_option maxHeartbeats 3200000 in
set_option maxRecDepth 100000 in
theorem ladderIs_any (h : Inv k ord gone gone pv nx gs lbs lv w) (oa op oi og : Option Addr) (ca cp ci cg : Nat) (hn : k.n ≤ 4096) (hord : ord.length = k.n) (hlt : ∀ i, i ∈ ord → i < k.n)
    (ho : OrR k.c w oa k.n) (hp : PrR k.B0 k.P w op k.n) (hi : IdR ord w oi) (hg : GoR gone w og k.n) :
    Calls Try.prog 10 #[.pointer (some ⟨k.kb, 0, none⟩), .int .u8 k.s, .slice op k.n cp, .slice oa k.n ca, .slice oi k.n ci, .slice og k.n cg] w fun e w' => e = .returned (.bool true) ∧ ∃ n, w' = w.drewN n := by
  obtain ⟨ol, lcap, hlv⟩ : ∃ ol lcap, lv = .slice ol gs.length lcap := by
    rcases h.lev with ⟨e1, e2⟩ | ⟨lb, cap, f, e, _⟩
    · exact ⟨none, 0, by rw [e2, ← h.len, e1]; rfl⟩
    · exact ⟨_, cap, by rw [e, h.len]⟩
  obtain ⟨_, bk2, _⟩ := book_cells h.book
  have HCN := hid (fun m => count_any k.kb k.off k.s ol gs.length lcap (w.drewN m) rfl (by rw [World.cell?_drewN, bk2, hlv]))
  have H := hid h
  have HO := hid ho
  have HP := hid hp
  have HG := hid hg
  have HIX := hid hi
  have HLT := hid hlt
  have HORD := hid hord
  have HLV := hid hlv
  have hgl := gs_len h
  have hgl2 : gs.length ≤ 4096 := by omega
  obtain ⟨GL, hGL⟩ : ∃ GL, gs.length = GL := ⟨_, rfl⟩
  rw [hGL] at HCN hgl2
  have HGL := hid hGL
  clear h ho hp hg hi hlt hord hlv bk2 hgl hGL
  go_enter Try.func10, Try.ntmps10
  go_wp2_with (go_at_call 11; refine (HCN.out 0).mono ?_; rintro e w' ⟨rfl, rfl⟩)
  go_loopw [14, 15, 16, 17] (fun li p lp t wr => ∃ (T m : Nat) (LI : Int) (prv : Option Nat) (LP : Int), T ≤ k.n ∧ li = .int .i64 LI ∧ p = .pointer (prv.map fun i => ⟨k.c + i, 0, none⟩) ∧ lp = .int .i64 LP ∧ t = .int .i64 T ∧ wr = w.drewN m ∧ Hid (Book.Pos k.P gs LI prv LP ((ord.drop T).filter (fun i => !gone i)))) (fun _ _ _ t _ => k.n - (intOf t).toNat)
  case atStart => exact ⟨0, 0, -1, none, 0, Nat.zero_le _, rfl, rfl, rfl, rfl, rfl, .inl ⟨rfl, rfl, rfl, by rw [List.drop_zero]; exact H.out.pure.alive⟩⟩
  case round =>
    obtain ⟨T, m, LI, prv, LP, hT, rfl, rfl, rfl, rfl, rfl, HPOS⟩ := hrel
    by_cases hlt : T < k.n
    · have hTo : T < ord.length := by rw [HORD.out]; exact hlt
      have hik : ord.getD T 0 < k.n := HLT.out _ (by simp [hTo])
      obtain ⟨bi, rfl, cbi⟩ := HIX.out.at hTo
      have DG := hid (@drop_filter_gone ord gone T hTo)
      have DA := hid (@drop_filter_alive ord gone T hTo)
      generalize ord.getD T 0 = i at *
      obtain ⟨bo, rfl, cbo⟩ := HO.out.at hik
      obtain ⟨bp, off, rfl, cbp⟩ := HP.out.at hik
      obtain ⟨bg, rfl, cbg⟩ := HG.out.at hik
      have i1 : (0 : Int) ≤ (i : Int) := Int.natCast_nonneg _
      have i2 : (i : Int) < (k.n : Int) := by omega
      have i3 : (0 : Int) ≤ (T : Int) := Int.natCast_nonneg _
      have i4 : (T : Int) < (k.n : Int) := by omega
      clear hTo
      cases hgi : gone i with
      | true =>
        rw [hgi] at cbg
        have P2 := hid (DG.out hgi ▸ HPOS.out)
        clear hgi
        go_wp2_with fail
        go_roundw
        case rel => exact ⟨T + 1, m, LI, prv, LP, by omega, rfl, rfl, rfl, by go_num, rfl, P2.out⟩
        case measure => simp [intOf]; omega
      | false =>
        rw [hgi] at cbg
        have hstep := Book.pos_step H.out.pure (DA.out hgi ▸ HPOS.out)
        clear hgi DG DA HPOS
        rcases hstep with ⟨rfl, rfl, hgs, hhd, hpv, hpos⟩ | ⟨j, a, rfl, rfl, ha, hpr, hna, hpi, hpos⟩ | ⟨j, a, rfl, rfl, ha, hpr, hlast, hna, hj1, hhd, hpi, hpos⟩
        · obtain ⟨lb, cap, f, hl1, hl2, hl3, hl4⟩ := lev_some H.out hgs
          obtain ⟨q0, q1, q2, q3⟩ := lvl_cells H.out hl3 hl2 hl4 hgs
          rw [headD_of hhd] at q1
          rw [hhd] at q2
          rw [HGL.out] at hl1 hgs
          have o15 : w.cell? ⟨k.c + i, 15, none⟩ = some (k.ptr (pv i)) := (cf (H.out.ords i hik)).1
          rw [hpv] at o15
          have HC26 := hid (price_i k.kb k.off k.s lb GL cap 0 (lbs.getD 0 0) _ w rfl hl1 hgs q0 q1)
          have HC27 := hid (head_i k.kb k.off k.s lb GL cap 0 (lbs.getD 0 0) (.pointer (some ⟨k.c + i, 0, none⟩)) w rfl hl1 hgs q0 q2)
          have HC28 := hid (prev_i (k.c + i) (.pointer none) w o15)
          have hnq := fun w => neq_same ⟨k.c + i, 0, none⟩ w
          have HP2 := hid hpos
          clear hl1 hl2 hl3 hl4 q0 q1 q2 q3 o15 hhd hpv hpos
          go_wp2_with fail
          go_quiet ((go_at_call 26; refine quiet_plus (HC26.out _ (by rfl) _ ?_); rfl))
          go_wp2_with (first | (go_at_call 27; refine (HC27.out _ (by rfl) _ (by rfl)).mono ?_; rintro e w' ⟨rfl, rfl⟩) | (go_at_call 28; refine (HC28.out _ (by rfl)).mono ?_; rintro e w' ⟨rfl, rfl⟩))
          go_roundw
          case rel => exact ⟨T + 1, _, 0, some i, k.P i, by omega, rfl, rfl, rfl, by go_num, rfl, HP2.out⟩
          case measure => simp [intOf]; omega
        · have hak : a < k.n := H.out.pure.lt a ha
          have o15 : w.cell? ⟨k.c + i, 15, none⟩ = some (k.ptr (pv i)) := (cf (H.out.ords i hik)).1
          have a16 : w.cell? ⟨k.c + a, 16, none⟩ = some (k.ptr (nx a)) := (cf (H.out.ords a hak)).1
          rw [hpi] at o15
          rw [hna] at a16
          have HC25 := hid (next_i (k.c + a) (.pointer (some ⟨k.c + i, 0, none⟩)) w a16)
          have HC28 := hid (prev_i (k.c + i) (.pointer (some ⟨k.c + a, 0, none⟩)) w o15)
          have hnq := fun w => neq_same ⟨k.c + i, 0, none⟩ w
          have hnq2 := fun w => neq_same ⟨k.c + a, 0, none⟩ w
          have HP2 := hid hpos
          have cbp2 : w.cell? ⟨bp, off + i, none⟩ = some (.int .i64 LP) := by rw [cbp, hpr]
          have j0 : (0 : Int) ≤ (j : Int) := Int.natCast_nonneg _
          clear o15 a16 hpi hna hpos cbp hpr
          go_wp2_with (first | (go_at_call 25; refine (HC25.out _ (by rfl)).mono ?_; rintro e w' ⟨rfl, rfl⟩) | (go_at_call 28; refine (HC28.out _ (by rfl)).mono ?_; rintro e w' ⟨rfl, rfl⟩))
          go_roundw
          case rel => exact ⟨T + 1, _, j, some i, LP, by omega, rfl, rfl, rfl, by go_num, rfl, HP2.out⟩
          case measure => simp [intOf]; omega
        · have hak : a < k.n := H.out.pure.lt a ha
          have hgs : 0 < gs.length := by omega
          obtain ⟨lb, cap, f, hl1, hl2, hl3, hl4⟩ := lev_some H.out hgs
          obtain ⟨q0, q1, q2, q3⟩ := lvl_cells H.out hl3 hl2 hl4 hj1
          obtain ⟨r0, r1, r2, r3⟩ := lvl_cells H.out hl3 hl2 hl4 (show j < gs.length by omega)
          rw [headD_of hhd] at q1
          rw [hhd] at q2
          rw [hlast] at r3
          rw [HGL.out] at hl1 hgs hj1
          have o15 : w.cell? ⟨k.c + i, 15, none⟩ = some (k.ptr (pv i)) := (cf (H.out.ords i hik)).1
          have a16 : w.cell? ⟨k.c + a, 16, none⟩ = some (k.ptr (nx a)) := (cf (H.out.ords a hak)).1
          rw [hpi] at o15
          rw [hna] at a16
          have HC24 := hid (tail_i k.kb k.off k.s lb GL cap j (lbs.getD j 0) (.pointer (some ⟨k.c + a, 0, none⟩)) w rfl hl1 (by omega) r0 r3)
          have HC25 := hid (next_i (k.c + a) (.pointer none) w a16)
          have HC26 := hid (price_i k.kb k.off k.s lb GL cap (j + 1) (lbs.getD (j + 1) 0) _ w rfl hl1 hj1 q0 q1)
          have HC27 := hid (head_i k.kb k.off k.s lb GL cap (j + 1) (lbs.getD (j + 1) 0) (.pointer (some ⟨k.c + i, 0, none⟩)) w rfl hl1 hj1 q0 q2)
          have HC28 := hid (prev_i (k.c + i) (.pointer none) w o15)
          have hnq := fun w => neq_same ⟨k.c + i, 0, none⟩ w
          have hnq2 := fun w => neq_same ⟨k.c + a, 0, none⟩ w
          have HP2 := hid hpos
          have j0 : (0 : Int) ≤ (j : Int) := Int.natCast_nonneg _
          have hprb : (k.P i != LP) = true := by simpa using hpr
          clear hl1 hl2 hl3 hl4 q0 q1 q2 q3 r0 r1 r2 r3 o15 a16 hhd hpi hpos hpr hlast hna
          go_wp2_with (first | (go_at_call 24; refine (HC24.out _ (by rfl) _ (by rfl)).mono ?_; rintro e w' ⟨rfl, rfl⟩) | (go_at_call 25; refine (HC25.out _ (by rfl)).mono ?_; rintro e w' ⟨rfl, rfl⟩))
          go_quiet ((go_at_call 26; refine quiet_plus (HC26.out _ (by rfl) _ ?_); rfl))
          go_wp2_with (first | (go_at_call 27; refine (HC27.out _ (by rfl) _ (by rfl)).mono ?_; rintro e w' ⟨rfl, rfl⟩) | (go_at_call 28; refine (HC28.out _ (by rfl)).mono ?_; rintro e w' ⟨rfl, rfl⟩))
          go_roundw
          case rel => exact ⟨T + 1, _, _, some i, k.P i, by omega, rfl, rfl, rfl, by go_num, rfl, HP2.out⟩
          case measure => simp [intOf]; omega
    · obtain rfl : T = k.n := by omega
      have hR : (ord.drop k.n).filter (fun i => !gone i) = [] := by rw [List.drop_eq_nil_of_le (by rw [HORD.out]; exact Nat.le_refl _)]; rfl
      have hend := Book.pos_end H.out.pure (hR ▸ HPOS.out)
      clear hR HPOS
      rcases hend with ⟨rfl, rfl, hg0⟩ | ⟨j, a, rfl, rfl, ha, hj1, hlast, hna⟩
      · have hGL0 : GL = 0 := by have := HGL.out; rw [hg0] at this; simp at this; omega
        subst hGL0
        go_wp2_with fail
        go_ret
        exact ⟨rfl, _, rfl⟩
      · have hak : a < k.n := H.out.pure.lt a ha
        have hgs : 0 < gs.length := by omega
        obtain ⟨lb, cap, f, hl1, hl2, hl3, hl4⟩ := lev_some H.out hgs
        obtain ⟨r0, r1, r2, r3⟩ := lvl_cells H.out hl3 hl2 hl4 (show j < gs.length by omega)
        rw [hlast] at r3
        rw [HGL.out] at hl1 hgs hj1
        subst hj1
        have a16 : w.cell? ⟨k.c + a, 16, none⟩ = some (k.ptr (nx a)) := (cf (H.out.ords a hak)).1
        rw [hna] at a16
        have HC24 := hid (tail_i k.kb k.off k.s lb (j + 1) cap j (lbs.getD j 0) (.pointer (some ⟨k.c + a, 0, none⟩)) w rfl hl1 (by omega) r0 r3)
        have HC25 := hid (next_i (k.c + a) (.pointer none) w a16)
        have hnq2 := fun w => neq_same ⟨k.c + a, 0, none⟩ w
        have j0 : (0 : Int) ≤ (j : Int) := Int.natCast_nonneg _
        clear hl1 hl2 hl3 hl4 r0 r1 r2 r3 a16 hna hlast
        go_wp2_with (first | (go_at_call 24; refine (HC24.out _ (by rfl) _ (by rfl)).mono ?_; rintro e w' ⟨rfl, rfl⟩) | (go_at_call 25; refine (HC25.out _ (by rfl)).mono ?_; rintro e w' ⟨rfl, rfl⟩))
        go_ret
        exact ⟨rfl, _, rfl⟩
end Go.Proofs.Qxb6612266a
