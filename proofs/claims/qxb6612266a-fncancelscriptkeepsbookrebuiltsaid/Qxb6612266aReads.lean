import Derived.Test.Qxb6612266aBase
import Derived.WalkKit
import Derived.WalkLawsBesides
import Derived.WalkSpells
import Derived.Deep.OwnRows
import Derived.BigQuiet
import Derived.Deep.QuietTactic
import Derived.RegionTactic
import Derived.BigRegion
import Derived.Deep.RegionWith
import Derived.Deep.DrawnRows
namespace Go.Proofs.Qxb6612266a
open Go.RowKit
attribute [local go_sem ↓] Go.wp_at_zero Go.wp_at_succ

theorem hid {p : Prop} (h : p) : Hid p := h

/-- Where the ladder of a side lies in the book. -/
def offOf (s : Int) : Nat := if s = 0 then 0 else 2

theorem ladder_any (kb : Nat) (s : Int) (w : World) :
    Calls Try.prog 22 #[.pointer (some ⟨kb, 0, none⟩), .int .u8 s] w fun e w' => e = .returned (.pointer (some ⟨kb, offOf s, none⟩)) ∧ w' = w := by
  unfold offOf
  by_cases hs : s = 0
  · subst hs
    go_enter Try.func22, Try.ntmps22
    go_wp2
    go_ret
    exact ⟨rfl, rfl⟩
  · rw [if_neg hs]
    have hb : (s == 0) = false := by simpa using hs
    clear hs
    go_enter Try.func22, Try.ntmps22
    go_wp2
    go_ret
    exact ⟨rfl, rfl⟩

/-- better: 'p better than q'. -/
def isBetter (bids : Bool) (p q : Int) : Bool := if bids then decide (q < p) else decide (p < q)

theorem better_any (kb off : Nat) (bids : Bool) (p q : Int) (w : World) (h : w.cell? ⟨kb, off, none⟩ = some (.bool bids)) :
    Calls Try.prog 36 #[.pointer (some ⟨kb, off, none⟩), .int .i64 p, .int .i64 q] w fun e w' => e = .returned (.bool (isBetter bids p q)) ∧ w' = w := by
  unfold isBetter
  cases bids
  · go_enter Try.func36, Try.ntmps36
    go_wp2
    go_ret
    exact ⟨rfl, rfl⟩
  · go_enter Try.func36, Try.ntmps36
    go_wp2
    go_ret
    exact ⟨rfl, rfl⟩

theorem next_any (b : Nat) (v : Value) (w : World) (h : w.cell? ⟨b, 16, none⟩ = some v) :
    Calls Try.prog 25 #[.pointer (some ⟨b, 0, none⟩)] w fun e w' => e = .returned v ∧ w' = w := by
  go_enter Try.func25, Try.ntmps25
  go_wp2
  go_ret
  exact ⟨rfl, rfl⟩
theorem prev_any (b : Nat) (v : Value) (w : World) (h : w.cell? ⟨b, 15, none⟩ = some v) :
    Calls Try.prog 28 #[.pointer (some ⟨b, 0, none⟩)] w fun e w' => e = .returned v ∧ w' = w := by
  go_enter Try.func28, Try.ntmps28
  go_wp2
  go_ret
  exact ⟨rfl, rfl⟩

theorem count_any (kb off : Nat) (s : Int) (oa : Option Addr) (m cap : Nat) (w : World) (ho : offOf s = off) (h : w.cell? ⟨kb, off + 1, none⟩ = some (.slice oa m cap)) :
    Calls Try.prog 11 #[.pointer (some ⟨kb, 0, none⟩), .int .u8 s] w fun e w' => e = .returned (.int .i64 m) ∧ w' = w := by
  have HO := hid ho
  clear ho
  go_enter Try.func11, Try.ntmps11
  go_wp2_with (go_at_call 22; refine (ladder_any kb s _).mono ?_; rintro e w' ⟨rfl, rfl⟩; rw [HO.out])
  go_ret
  exact ⟨rfl, rfl⟩

/-- The level readers: ZZlevel.. at level j. -/
theorem tail_any (kb off : Nat) (s : Int) (lb m cap j L : Nat) (v : Value) (w : World) (ho : offOf s = off) (h : w.cell? ⟨kb, off + 1, none⟩ = some (.slice (some ⟨lb, 0, none⟩) m cap)) (hj : j < m)
    (hl : w.cell? ⟨lb, j, none⟩ = some (.pointer (some ⟨L, 0, none⟩))) (hv : w.cell? ⟨L, 2, none⟩ = some v) :
    Calls Try.prog 24 #[.pointer (some ⟨kb, 0, none⟩), .int .u8 s, .int .i64 j] w fun e w' => e = .returned v ∧ w' = w := by
  have HO := hid ho
  have h1 : (0 : Int) ≤ (j : Int) := Int.natCast_nonneg _
  have h2 : (j : Int) < (m : Int) := by omega
  clear ho
  go_enter Try.func24, Try.ntmps24
  go_wp2_with (go_at_call 22; refine (ladder_any kb s _).mono ?_; rintro e w' ⟨rfl, rfl⟩; rw [HO.out])
  go_ret
  exact ⟨rfl, rfl⟩

/-- The level readers: ZZlevel.. at level j. -/
theorem price_any (kb off : Nat) (s : Int) (lb m cap j L : Nat) (v : Value) (w : World) (ho : offOf s = off) (h : w.cell? ⟨kb, off + 1, none⟩ = some (.slice (some ⟨lb, 0, none⟩) m cap)) (hj : j < m)
    (hl : w.cell? ⟨lb, j, none⟩ = some (.pointer (some ⟨L, 0, none⟩))) (hv : w.cell? ⟨L, 0, none⟩ = some v) :
    Calls Try.prog 26 #[.pointer (some ⟨kb, 0, none⟩), .int .u8 s, .int .i64 j] w fun e w' => e = .returned v ∧ w' = w := by
  have HO := hid ho
  have h1 : (0 : Int) ≤ (j : Int) := Int.natCast_nonneg _
  have h2 : (j : Int) < (m : Int) := by omega
  clear ho
  go_enter Try.func26, Try.ntmps26
  go_wp2_with (go_at_call 22; refine (ladder_any kb s _).mono ?_; rintro e w' ⟨rfl, rfl⟩; rw [HO.out])
  go_ret
  exact ⟨rfl, rfl⟩

/-- The level readers: ZZlevel.. at level j. -/
theorem head_any (kb off : Nat) (s : Int) (lb m cap j L : Nat) (v : Value) (w : World) (ho : offOf s = off) (h : w.cell? ⟨kb, off + 1, none⟩ = some (.slice (some ⟨lb, 0, none⟩) m cap)) (hj : j < m)
    (hl : w.cell? ⟨lb, j, none⟩ = some (.pointer (some ⟨L, 0, none⟩))) (hv : w.cell? ⟨L, 1, none⟩ = some v) :
    Calls Try.prog 27 #[.pointer (some ⟨kb, 0, none⟩), .int .u8 s, .int .i64 j] w fun e w' => e = .returned v ∧ w' = w := by
  have HO := hid ho
  have h1 : (0 : Int) ≤ (j : Int) := Int.natCast_nonneg _
  have h2 : (j : Int) < (m : Int) := by omega
  clear ho
  go_enter Try.func27, Try.ntmps27
  go_wp2_with (go_at_call 22; refine (ladder_any kb s _).mono ?_; rintro e w' ⟨rfl, rfl⟩; rw [HO.out])
  go_ret
  exact ⟨rfl, rfl⟩

/-- The closure that sort.Search is handed: at level j. -/
theorem closure_any (b1 b2 kb off lb m cap j L : Nat) (bids : Bool) (p q : Int) (w : World) (c1 : w.cell? ⟨b1, 0, none⟩ = some (.pointer (some ⟨kb, off, none⟩))) (c2 : w.cell? ⟨b2, 0, none⟩ = some (.int .i64 p))
    (hb : w.cell? ⟨kb, off, none⟩ = some (.bool bids)) (h : w.cell? ⟨kb, off + 1, none⟩ = some (.slice (some ⟨lb, 0, none⟩) m cap)) (hj : j < m)
    (hl : w.cell? ⟨lb, j, none⟩ = some (.pointer (some ⟨L, 0, none⟩))) (hv : w.cell? ⟨L, 0, none⟩ = some (.int .i64 q)) :
    Calls Try.prog 35 #[.int .i64 j, .pointer (some ⟨b1, 0, none⟩), .pointer (some ⟨b2, 0, none⟩)] w fun e w' => e = .returned (.bool (!isBetter bids p q)) ∧ ∃ n, w' = w.drewN n := by
  have h1 : (0 : Int) ≤ (j : Int) := Int.natCast_nonneg _
  have h2 : (j : Int) < (m : Int) := by omega
  go_enter Try.func35, Try.ntmps35
  go_wp2_with fail
  go_quiet ((go_at_call 36; refine Calls.quiet_of_same (better_any kb off bids p q _ ?_); simp [hb]))
  go_wp2_with fail
  go_ret
  exact ⟨rfl, _, rfl⟩

set_option maxHeartbeats 400000 in
/-- sort.Search over that closure: the first level at which the test says yes. -/
theorem search34 (b1 b2 n j0 : Nat) (g : Nat → Bool) (w : World) (hn : n ≤ 4096) (hj0 : j0 ≤ n) (hg : ∀ j, j < n → (g j = true ↔ j0 ≤ j))
    (hc : ∀ j k, j < n → Calls Try.prog 35 #[.int .i64 (j : Int), .pointer (some ⟨b1, 0, none⟩), .pointer (some ⟨b2, 0, none⟩)] (w.drewN k) fun e w' => e = .returned (.bool (g j)) ∧ ∃ k', w' = w.drewN k') :
    Calls Try.prog 34 #[.int .i64 n, .func (.func 35) #[] #[.pointer (some ⟨b1, 0, none⟩), .pointer (some ⟨b2, 0, none⟩)]] w fun e w' => e = .returned (.int .i64 j0) ∧ ∃ k, w' = w.drewN k := by
  have HC := hid hc
  have HG := hid hg
  clear hc hg
  go_enter Try.func34, Try.ntmps34
  go_wp2_with fail
  go_loopw [5, 6] (fun i j wr => ∃ a b k : Nat, a ≤ j0 ∧ j0 ≤ b ∧ b ≤ n ∧ i = .int .i64 a ∧ j = .int .i64 b ∧ wr = w.drewN k) (fun i j _ => (intOf j).toNat - (intOf i).toNat)
  case atStart => exact ⟨0, n, 0, Nat.zero_le _, hj0, Nat.le_refl _, rfl, rfl, rfl⟩
  case round =>
    obtain ⟨a, b, k, ha, hb, hbn, rfl, rfl, rfl⟩ := hrel
    by_cases hlt : a < b
    · obtain ⟨h, hh, h1, h2⟩ : ∃ h : Nat, ((a : Int) + (b : Int)) / 2 = (h : Int) ∧ a ≤ h ∧ h < b := ⟨(a + b) / 2, by omega, by omega, by omega⟩
      have HH := hid hh
      clear hh
      go_wp2_with fail
      rw [HH.out]
      have hgh := HG.out h (by omega)
      cases hv : g h with
      | true =>
        have h3 : j0 ≤ h := hgh.1 hv
        have HC1 := hid (HC.out h k (by omega))
        rw [hv] at HC1
        clear hgh hv
        refine Calls.mono HC1.out ?_
        rintro e w' ⟨rfl, k', rfl⟩
        go_wp2_with fail
        go_roundw
        case rel => exact ⟨a, h, k', ha, h3, by omega, rfl, rfl, rfl⟩
        case measure => simp [intOf]; omega
      | false =>
        have h3 : h < j0 := by rcases Nat.lt_or_ge h j0 with h4 | h4; exact h4; exact absurd (hgh.2 h4) (by simp [hv])
        have HC1 := hid (HC.out h k (by omega))
        rw [hv] at HC1
        clear hgh hv
        refine Calls.mono HC1.out ?_
        rintro e w' ⟨rfl, k', rfl⟩
        go_wp2_with fail
        go_roundw
        case rel => exact ⟨h + 1, b, k', by omega, hb, hbn, by go_num, rfl, rfl⟩
        case measure => simp [intOf]; omega
    · obtain rfl : a = j0 := by omega
      obtain rfl : b = a := by omega
      go_wp2_with fail
      go_ret
      exact ⟨rfl, _, rfl⟩

theorem cell_two (w : World) (b o : Nat) (hb : b < w.heap.size) (o1 o2 : Obj) : ((w.alloc o1).alloc o2).cell? ⟨b, o, none⟩ = w.cell? ⟨b, o, none⟩ :=
  (World.cell?_alloc_lt (w := w.alloc o1) _ (a := ⟨b, o, none⟩) (by simp; omega)).trans (World.cell?_alloc_lt (w := w) _ (a := ⟨b, o, none⟩) hb)

set_option maxHeartbeats 800000 in
/-- (*ladder).search: the place of price p, which the ladder has at level j0. -/
theorem search30 (kb off lb m cap j0 : Nat) (bids : Bool) (p : Int) (Q : Nat → Int) (L : Nat → Nat) (w : World) (hm : m ≤ 4096) (hj0 : j0 < m)
    (hb : w.cell? ⟨kb, off, none⟩ = some (.bool bids)) (h : w.cell? ⟨kb, off + 1, none⟩ = some (.slice (some ⟨lb, 0, none⟩) m cap))
    (hl : ∀ j, j < m → w.cell? ⟨lb, j, none⟩ = some (.pointer (some ⟨L j, 0, none⟩))) (hv : ∀ j, j < m → w.cell? ⟨L j, 0, none⟩ = some (.int .i64 (Q j)))
    (hg : ∀ j, j < m → (isBetter bids p (Q j) = false ↔ j0 ≤ j)) (hp : Q j0 = p) :
    Calls Try.prog 30 #[.pointer (some ⟨kb, off, none⟩), .int .i64 p] w fun e w' => e = .returned (.tuple #[.int .i64 j0, .bool true]) ∧ Below w.heap.size w w' := by
  have hkb := World.block_lt_of_cell? w _ hb
  have hlb := World.block_lt_of_cell? w _ (hl j0 hj0)
  have E := fun (b o : Nat) (hb : b < w.heap.size) (o1 o2 : Obj) => cell_two w b o hb o1 o2
  have hL := World.block_lt_of_cell? w _ (hv j0 hj0)
  have d1 : ∀ o1 o2, ((w.alloc o1).alloc o2).cell? ⟨kb, off + 1, none⟩ = some (.slice (some ⟨lb, 0, none⟩) m cap) := fun o1 o2 => (E kb (off + 1) hkb o1 o2).trans h
  have d2 : ∀ o1 o2, ((w.alloc o1).alloc o2).cell? ⟨lb, j0, none⟩ = some (.pointer (some ⟨L j0, 0, none⟩)) := fun o1 o2 => (E lb j0 hlb o1 o2).trans (hl j0 hj0)
  have d3 : ∀ o1 o2, ((w.alloc o1).alloc o2).cell? ⟨L j0, 0, none⟩ = some (.int .i64 p) := fun o1 o2 => (E (L j0) 0 hL o1 o2).trans (by rw [hv j0 hj0, hp])
  have HCL := hid (fun j k (hj : j < m) => closure_any w.heap.size (w.heap.size + 1) kb off lb m cap j (L j) bids p (Q j) (((w.alloc (.cells #[.pointer (some ⟨kb, off, none⟩)] 62)).alloc (.cells #[.int .i64 p] 39)).drewN k) (by simp [go_sem]) (by simp [go_sem]) (by rw [World.cell?_drewN, E kb off hkb]; exact hb) (by rw [World.cell?_drewN, E kb (off + 1) hkb]; exact h) hj (by rw [World.cell?_drewN, E lb j hlb]; exact hl j hj) (by rw [World.cell?_drewN, E (L j) 0 (World.block_lt_of_cell? w _ (hv j hj))]; exact hv j hj))
  have HS := hid (search34 w.heap.size (w.heap.size + 1) m j0 (fun j => !isBetter bids p (Q j)) ((w.alloc (.cells #[.pointer (some ⟨kb, off, none⟩)] 62)).alloc (.cells #[.int .i64 p] 39)) hm (by omega) (fun j hj => by rw [← hg j hj]; simp) (fun j k hj => (HCL.out j k hj).mono (by
    rintro e w' ⟨rfl, n', rfl⟩
    exact ⟨rfl, k + n', by simp⟩)))
  have i1 : (0 : Int) ≤ (j0 : Int) := Int.natCast_nonneg _
  have i2 : (j0 : Int) < (m : Int) := by omega
  clear E hl hv hg hp hb h HCL hkb hlb hL
  go_enter Try.func30, Try.ntmps30
  go_wp2_with fail
  refine Calls.mono HS.out ?_
  rintro e w' ⟨rfl, k, rfl⟩
  go_wp2_with fail
  go_quiet (fail)
  go_wp2_with fail
  go_ret2
  exact ⟨rfl, (((Below.refl w.heap.size w).alloc (Nat.le_refl _) _).alloc (by simp) _).trans ⟨rfl, rfl, rfl, Nat.le_refl _, fun _ _ => rfl⟩⟩
end Go.Proofs.Qxb6612266a
