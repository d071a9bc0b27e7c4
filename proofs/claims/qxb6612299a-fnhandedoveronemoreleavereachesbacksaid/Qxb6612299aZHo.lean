import Derived.Test.Qxb6612299aHanded
import Derived.Deep.AppendLies
import Derived.Deep.RegionLaw
import Derived.Deep.DrawnRows
namespace Go.Proofs.Qxb6612299a
open Go.RowKit
attribute [local go_sem ↓] Go.wp_at_zero Go.wp_at_succ

theorem Try.info34 : (Try.prog.info? 34).map (fun i => (i.zero, i.size, i.bytes)) = some (some (.agg #[.int .i64 0, .int .i64 0, .int .i64 0, .int .i64 0, .int .i64 0, .pointer none]), 6, 48) := by kernel_rfl

/-- The cells of one leave. -/
def leaf (x y : Int) : List Value := [.int .i64 0, .int .i64 0, .int .i64 x, .int .i64 y, .int .i64 0, .pointer none]
/-- The cells of the first k leaves. -/
def leafs (xs ys : List Int) : Nat → List Value
  | 0 => []
  | k + 1 => leafs xs ys k ++ leaf (xs.getD k 0) (ys.getD k 0)

theorem leafs_length (xs ys : List Int) : ∀ k, (leafs xs ys k).length = k * 6
  | 0 => rfl
  | k + 1 => by simp [leafs, leafs_length xs ys k, leaf]; omega

theorem leafs_get (xs ys : List Int) : ∀ n i j, i < n → j < 6 → (leafs xs ys n)[i * 6 + j]? = (leaf (xs.getD i 0) (ys.getD i 0))[j]?
  | n + 1, i, j, hi, hj => by
    by_cases h : i < n
    · rw [leafs, List.getElem?_append_left (by rw [leafs_length]; omega)]
      exact leafs_get xs ys n i j h hj
    · have : i = n := by omega
      subst this
      rw [leafs, List.getElem?_append_right (by rw [leafs_length]; omega), leafs_length]
      congr 1
      omega

theorem own_lv {w : World} {base g cap n : Nat} {xs ys : List Int} (h : w.ownsRow base 34 6 (.slice (some ⟨g, 0, none⟩) n cap) n (leafs xs ys n)) (hn : xs.length = n) : base ≤ g ∧ g < w.heap.size ∧ Lv w g xs ys := by
  obtain ⟨_, h2⟩ := h
  rcases h2 with ⟨h2, _⟩ | ⟨g', cap', cur, hv, hg, hh, _, _, _, ht⟩
  · cases h2
  · have : g = g' := by simpa [Value.ownBlock] using congrArg Value.ownBlock hv
    subst this
    refine ⟨hg, (Array.getElem?_eq_some_iff.1 hh).1, fun k hk => ?_⟩
    have key : ∀ j, j < 6 → w.cell? ⟨g, k * 6 + j, none⟩ = (leaf (xs.getD k 0) (ys.getD k 0))[j]? := by
      intro j hj
      rw [← leafs_get xs ys n k j (by omega) hj, ← ht, List.getElem?_take]
      rw [if_pos (by omega)]
      simp [World.cell?, hh]
    exact ⟨key 0 (by decide), key 1 (by decide), key 2 (by decide), key 3 (by decide), key 4 (by decide), key 5 (by decide)⟩

theorem own_base {w : World} {base g cap n : Nat} {xs : List Value} (h : w.ownsRow base 34 6 (.slice (some ⟨g, 0, none⟩) n cap) n xs) : base ≤ g := by
  rcases h.2 with ⟨h2, _⟩ | ⟨g', cap', cur, hv, hg, _⟩
  · cases h2
  · have : g = g' := by simpa [Value.ownBlock] using congrArg Value.ownBlock hv
    omega

theorem lv_alloc {w : World} {g : Nat} {xs ys : List Int} (h : Lv w g xs ys) (hg : g < w.heap.size) (o : Obj) : Lv (w.alloc o) g xs ys := fun k hk => by
  have e : ∀ j, (w.alloc o).cell? ⟨g, j, none⟩ = w.cell? ⟨g, j, none⟩ := fun j => World.cell?_alloc_lt (w := w) _ (a := ⟨g, j, none⟩) hg
  simp only [e]
  exact h k hk

/-- The keeper's literal, built. -/
theorem build55 (nd m : Int) (g n cap : Nat) (w : World) : (Instr.build 55 #[(11, .agg #[.int .i64 nd, .int .i64 m]), (22, .slice (some ⟨g, 0, none⟩) n cap)]).run Try.prog w = .ok (.agg #[.pointer none, .nilIface, .nilIface, .nilFunc, .int .i64 0, .int .i64 0, .int .i64 0, .int .i64 0, .int .i64 0, .int .i64 0, .int .i64 0, .int .i64 nd, .int .i64 m, .pointer none, .int .u64 0, .int .u64 0, .bool false, .bool false, .slice none 0 0, .map none, .int .i64 0, .int .i64 0, .slice none 0 0, .slice none 0 0, .slice (some ⟨g, 0, none⟩) n cap, .slice none 0 0, .map none, .map none, .int .i64 0, .int .i64 0, .int .i64 0, .int .i64 0, .bool false, .int .i64 0, .map none, .slice none 0 0, .slice none 0 0]) w := by kernel_rfl

theorem wpList_build55 {ops : Array Oper} {rest : List Oper} {o : Oper} {a : Act} {Q : Exit → Act → World → Prop} {w : World} (hgd : o.guard = none) (x y : Operand) (ho : o.op = .build 55 #[(11, x), (22, y)])
    (nd m : Int) (g n cap : Nat) (hx : a.eval x = .agg #[.int .i64 nd, .int .i64 m]) (hy : a.eval y = .slice (some ⟨g, 0, none⟩) n cap)
    (h : wpList Try.prog ops Q rest (a.put o.dst (.agg #[.pointer none, .nilIface, .nilIface, .nilFunc, .int .i64 0, .int .i64 0, .int .i64 0, .int .i64 0, .int .i64 0, .int .i64 0, .int .i64 0, .int .i64 nd, .int .i64 m, .pointer none, .int .u64 0, .int .u64 0, .bool false, .bool false, .slice none 0 0, .map none, .int .i64 0, .int .i64 0, .slice none 0 0, .slice none 0 0, .slice (some ⟨g, 0, none⟩) n cap, .slice none 0 0, .map none, .map none, .int .i64 0, .int .i64 0, .int .i64 0, .int .i64 0, .bool false, .int .i64 0, .map none, .slice none 0 0, .slice none 0 0])) w) : wpList Try.prog ops Q (o :: rest) a w :=
  wpList_plain hgd fun _ hK => by
    unfold Oper.wp execOp
    simp only [ho, List.map_toArray, List.map_cons, List.map_nil, hx, hy, Sem.run_bind, build55, Result.andThen_ok, Sem.run_pure]
    exact hK _ _ h

set_option maxRecDepth 100000 in
set_option maxHeartbeats 1600000 in
theorem zzho_any (nd m : Int) (oa ob : Option Addr) (cx cy : Nat) (xs ys : List Int) (w : World) (hl : xs.length = ys.length) (hn : xs.length ≤ 1025) (hx : Rd w oa xs) (hy : Rd w ob ys) :
    Calls Try.prog 7 #[.int .i64 nd, .int .i64 m, .slice oa xs.length cx, .slice ob ys.length cy] w fun e w' => (∃ s, e = .returned (.tuple #[.int .i64 s, .bool true, .int .i64 0]) ∧ Plain.Great m xs ys s) ∧ Below w.heap.size w w' := by
  obtain ⟨i0, hi0, hz0, hz1, hz2⟩ := info_parts Try.info34
  have hl1 : xs.length ≤ ys.length := by omega
  have hl2 : ys.length ≤ xs.length := by omega
  have HL := hid hl
  have HX := hid hx
  have HY := hid hy
  clear hl hx hy
  go_enter Try.func7, Try.ntmps7
  go_wp2_with (refine wpList_make_own _ rfl _ _ 29 rfl w.heap.size 34 i0 _ 6 Try.underlying29 hi0 hz0 hz1 .i64 .i64 _ xs.length rfl rfl rfl (by rw [hz2]; omega) (by unfold maxLen; omega) (Nat.le_refl _) ?_; intro w1 hown hgrow)
  have HOWN := hid hown
  have HB1 := hid ((Below.refl w.heap.size w).grown hgrow (Nat.le_refl _) (fun k h => by cases h))
  clear hown hgrow
  go_loopw [11, 12] (fun v i wr => ∃ k g cap : Nat, k ≤ xs.length ∧ i = .int .i64 k ∧ v = .slice (some ⟨g, 0, none⟩) k cap ∧ wr.ownsRow w.heap.size 34 6 (.slice (some ⟨g, 0, none⟩) k cap) k (leafs xs ys k) ∧ Below w.heap.size w wr) (fun _ i _ => xs.length - (intOf i).toNat)
  case atStart => exact ⟨0, w.heap.size, xs.length, Nat.zero_le _, rfl, rfl, HOWN.out, HB1.out⟩
  case round =>
    obtain ⟨k, g, cap, hk, rfl, rfl, hown, hbel⟩ := hrel
    by_cases hlt : k < xs.length
    · obtain ⟨b, rfl, lb, cb⟩ := HX.out.cell hlt
      obtain ⟨d, rfl, ld, cd⟩ := HY.out.cell (show k < ys.length by omega)
      have hi1 : (0 : Int) ≤ (k : Int) := Int.natCast_nonneg _
      have hi2 : (k : Int) < (xs.length : Int) := by omega
      have hi3 : (k : Int) < (ys.length : Int) := by omega
      have hsz : w.heap.size ≤ wr.heap.size := hbel.size
      have e1 : xs[k] = xs.getD k 0 := by simp [hlt]
      have e2 : ys[k] = ys.getD k 0 := by simp [show k < ys.length by omega]
      rw [e1] at cb
      rw [e2] at cd
      clear e1 e2
      have HG := hid (show leafs xs ys (k + 1) = leafs xs ys k ++ leaf (xs.getD k 0) (ys.getD k 0) from rfl)
      generalize xs.getD k 0 = X at cb HG
      generalize ys.getD k 0 = Y at cd HG
      have c1 : wr.cell? ⟨b, k, none⟩ = some (.int .i64 X) := (hbel.cell (p := ⟨b, k, none⟩) lb).trans cb
      have c2 : wr.cell? ⟨d, k, none⟩ = some (.int .i64 Y) := (hbel.cell (p := ⟨d, k, none⟩) ld).trans cd
      have c3 : ∀ o, (wr.alloc o).cell? ⟨b, k, none⟩ = some (.int .i64 X) := fun o => (World.cell?_alloc_lt (w := wr) _ (a := ⟨b, k, none⟩) (by show b < _; omega)).trans c1
      have c4 : ∀ o, (wr.alloc o).cell? ⟨d, k, none⟩ = some (.int .i64 Y) := fun o => (World.cell?_alloc_lt (w := wr) _ (a := ⟨d, k, none⟩) (by show d < _; omega)).trans c2
      have HO := hid hown
      have HB := hid hbel
      clear hown hbel cb cd
      go_wp2_with fail
      go_region_law ((refine step_append_lies _ (by rfl) (.tmp 32) (.tmp 42) _ (by rfl) w.heap.size 34 i0 _ 6 48 Try.underlying29 hi0 hz0 hz1 hz2 rfl (by omega) (.slice (some ⟨g, 0, none⟩) k cap) k (leafs xs ys k) (by simp [Act.eval]) ((HO.out.alloc _).drew) ⟨wr.heap.size, 0, none⟩ 1 1 (leaf X Y) (by simp [Act.eval]) (by rfl) (World.news_of_block (cs := #[.int .i64 0, .int .i64 0, .int .i64 X, .int .i64 Y, .int .i64 0, .pointer none]) (t := 34) (fr := (0, 0)) (by exact heap_alloc_new _ _)) (by simp [leaf, Value.oneCell']) (by omega) (by unfold maxLen; omega) (by omega) (by simp; omega) (wr.heap.size + 1) (by simp) ?_; intro gg cap2 w2 hown2 hgrow2 hat hlt2))
      all_goals
        have hgb : w.heap.size ≤ g := own_base HO.out
        have HO2 := hid hown2
        have HB2 := hid (((HB.out.alloc hsz _).drew).grown hgrow2 (by simp; omega) (fun r hr => by simp [Value.ownBlock] at hr; omega))
        clear hown2 hgrow2 hat
        go_wp2_with fail
        go_roundw
        case rel => exact ⟨k + 1, gg, cap2, by omega, by go_num, rfl, by rw [HG.out]; exact HO2.out, HB2.out⟩
        case measure => simp [intOf]; omega
    · obtain rfl : k = xs.length := by omega
      obtain ⟨hg1, hg2, hlv⟩ := own_lv hown rfl
      have HLV := hid hlv
      have HB := hid hbel
      clear hown hbel hlv
      go_wp2_with ((with_reducible refine wpList_build55 ?_ (.tmp 46) (.tmp 47) ?_ nd m g xs.length cap ?_ ?_ ?_); rfl; rfl; rfl; rfl)
      refine Calls.mono (ho_any wr.heap.size g cap m xs ys _ HL.out hn ?_ ?_ ?_ (lv_alloc HLV.out hg2 _)) ?_
      · simp [go_sem]
      · simp [go_sem]
      · simp; omega
      rintro e w3 ⟨⟨s, rfl, hs⟩, hb3⟩
      have HS := hid hs
      have HB3 := hid hb3
      clear hs hb3
      go_wp2_with fail
      go_ret3
      exact ⟨⟨s, rfl, HS.out⟩, (HB.out.alloc HB.out.size _).trans (HB3.out.mono (by have := HB.out.size; simp; omega))⟩
end Go.Proofs.Qxb6612299a
