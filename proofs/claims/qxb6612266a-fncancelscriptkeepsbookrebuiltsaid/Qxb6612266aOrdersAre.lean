/-
  The slices that the laws carry along; zzOrdersAre walked.
-/
import Derived.Test.Qxb6612266aCancel
namespace Go.Proofs.Qxb6612266a
open Go.RowKit
set_option linter.unusedSimpArgs false

/-- The orders' slice. -/
def OrR (c : Nat) (w : World) (oa : Option Addr) (n : Nat) : Prop := n = 0 ∨ ∃ b, oa = some ⟨b, 0, none⟩ ∧ w.rowIs b 32 n (fun i => .pointer (some ⟨c + i, 0, none⟩))
/-- The slice 'gone'. -/
def GoR (gone : Nat → Bool) (w : World) (oa : Option Addr) (n : Nat) : Prop := n = 0 ∨ ∃ b, oa = some ⟨b, 0, none⟩ ∧ w.rowIs b 4 n (fun i => .bool (gone i))
/-- The slice 'idx'. -/
def IdR (ord : List Nat) (w : World) (oa : Option Addr) : Prop := ord = [] ∨ ∃ b, oa = some ⟨b, 0, none⟩ ∧ w.rowIs b 3 ord.length (fun t => .int .i64 ((ord.getD t 0 : Nat) : Int))
/-- The prices, which came in. -/
def PrR (B0 : Nat) (P : Nat → Int) (w : World) (oa : Option Addr) (n : Nat) : Prop := n = 0 ∨ ∃ b off, oa = some ⟨b, off, none⟩ ∧ b < B0 ∧ ∀ i, i < n → w.cell? ⟨b, off + i, none⟩ = some (.int .i64 (P i))

theorem OrR.fr {c : Nat} {w w' : World} {oa : Option Addr} {n B0 : Nat} (h : OrR c w oa n) (f : Fr B0 w w') : OrR c w' oa n := by
  rcases h with h | ⟨b, h1, h2⟩
  · exact .inl h
  · exact .inr ⟨b, h1, f.row h2 (by decide)⟩
theorem GoR.fr {g : Nat → Bool} {w w' : World} {oa : Option Addr} {n B0 : Nat} (h : GoR g w oa n) (f : Fr B0 w w') : GoR g w' oa n := by
  rcases h with h | ⟨b, h1, h2⟩
  · exact .inl h
  · exact .inr ⟨b, h1, f.row h2 (by decide)⟩
theorem IdR.fr {ord : List Nat} {w w' : World} {oa : Option Addr} {B0 : Nat} (h : IdR ord w oa) (f : Fr B0 w w') : IdR ord w' oa := by
  rcases h with h | ⟨b, h1, h2⟩
  · exact .inl h
  · exact .inr ⟨b, h1, f.row h2 (by decide)⟩
theorem PrR.fr {P : Nat → Int} {w w' : World} {oa : Option Addr} {n B0 : Nat} (h : PrR B0 P w oa n) (f : Below B0 w w') : PrR B0 P w' oa n := by
  rcases h with h | ⟨b, off, h1, h2, h3⟩
  · exact .inl h
  · exact .inr ⟨b, off, h1, h2, fun i hi => (f.cell (p := ⟨b, off + i, none⟩) h2).trans (h3 i hi)⟩

theorem OrR.at {c : Nat} {w : World} {oa : Option Addr} {n i : Nat} (h : OrR c w oa n) (hi : i < n) : ∃ b, oa = some ⟨b, 0, none⟩ ∧ w.cell? ⟨b, i, none⟩ = some (.pointer (some ⟨c + i, 0, none⟩)) := by
  rcases h with h | ⟨b, h1, h2⟩
  · omega
  · exact ⟨b, h1, h2.cell hi⟩
theorem GoR.at {g : Nat → Bool} {w : World} {oa : Option Addr} {n i : Nat} (h : GoR g w oa n) (hi : i < n) : ∃ b, oa = some ⟨b, 0, none⟩ ∧ w.cell? ⟨b, i, none⟩ = some (.bool (g i)) := by
  rcases h with h | ⟨b, h1, h2⟩
  · omega
  · exact ⟨b, h1, h2.cell hi⟩
theorem IdR.at {ord : List Nat} {w : World} {oa : Option Addr} {t : Nat} (h : IdR ord w oa) (hi : t < ord.length) : ∃ b, oa = some ⟨b, 0, none⟩ ∧ w.cell? ⟨b, t, none⟩ = some (.int .i64 ((ord.getD t 0 : Nat) : Int)) := by
  rcases h with h | ⟨b, h1, h2⟩
  · subst h; simp at hi
  · exact ⟨b, h1, h2.cell hi⟩
theorem PrR.at {B0 : Nat} {P : Nat → Int} {w : World} {oa : Option Addr} {n i : Nat} (h : PrR B0 P w oa n) (hi : i < n) : ∃ b off, oa = some ⟨b, off, none⟩ ∧ w.cell? ⟨b, off + i, none⟩ = some (.int .i64 (P i)) := by
  rcases h with h | ⟨b, off, h1, _, h3⟩
  · omega
  · exact ⟨b, off, h1, h3 i hi⟩

variable {k : Cfg} {ord : List Nat} {gone : Nat → Bool} {pv nx : Nat → Option Nat} {gs : List (List Nat)} {lbs : List Nat} {lv : Value} {w : World}

set_option maxHeartbeats 3200000 in
set_option maxRecDepth 100000 in
theorem ordersAre_any (h : Inv k ord gone gone pv nx gs lbs lv w) (oa op og : Option Addr) (ca cp cg : Nat) (hn : k.n ≤ 4096) (ho : OrR k.c w oa k.n) (hp : PrR k.B0 k.P w op k.n) (hg : GoR gone w og k.n) :
    Calls Try.prog 13 #[.slice oa k.n ca, .int .u8 k.s, .slice op k.n cp, .slice og k.n cg, .int .i64 k.now] w fun e w' => e = .returned (.bool true) ∧ ∃ n, w' = w.drewN n := by
  have H := hid h
  have HO := hid ho
  have HP := hid hp
  have HG := hid hg
  clear h ho hp hg
  go_enter Try.func13, Try.ntmps13
  go_wp2_with fail
  go_loopw [11] (fun i wr => ∃ t m : Nat, t ≤ k.n ∧ i = .int .i64 t ∧ wr = w.drewN m) (fun i _ => k.n - (intOf i).toNat)
  case atStart => exact ⟨0, 0, Nat.zero_le _, rfl, rfl⟩
  case round =>
    obtain ⟨t, m, ht, rfl, rfl⟩ := hrel
    by_cases hlt : t < k.n
    · obtain ⟨b, rfl, cb⟩ := HO.out.at hlt
      obtain ⟨d, off, rfl, cd⟩ := HP.out.at hlt
      obtain ⟨g, rfl, cg'⟩ := HG.out.at hlt
      have hor := H.out.ords t hlt
      have o0 : w.cell? ⟨k.c + t, 0, none⟩ = some (.int .i64 (t : Int)) := (cf hor).1
      have o1 : w.cell? ⟨k.c + t, 1, none⟩ = some (.int .u8 k.s) := (cf hor).1
      have o3 : w.cell? ⟨k.c + t, 3, none⟩ = some (.int .i64 (k.P t)) := (cf hor).1
      have o4 : w.cell? ⟨k.c + t, 4, none⟩ = some (.int .i64 1) := (cf hor).1
      have o7 : w.cell? ⟨k.c + t, 7, none⟩ = some (.int .i64 0) := (cf hor).1
      have o10 : w.cell? ⟨k.c + t, 10, none⟩ = some (.int .i64 0) := (cf hor).1
      have o11 : w.cell? ⟨k.c + t, 11, none⟩ = some (.int .u8 (if gone t then 3 else 0)) := (cf hor).1
      have o14 : w.cell? ⟨k.c + t, 14, none⟩ = some (.int .i64 (if gone t then k.now else 0)) := (cf hor).1
      have o15 : w.cell? ⟨k.c + t, 15, none⟩ = some (k.ptr (pv t)) := (cf hor).1
      have o16 : w.cell? ⟨k.c + t, 16, none⟩ = some (k.ptr (nx t)) := (cf hor).1
      have i1 : (0 : Int) ≤ (t : Int) := Int.natCast_nonneg _
      have i2 : (t : Int) < (k.n : Int) := by omega
      clear hor
      cases hgt : gone t with
      | true =>
        obtain ⟨p1, p2⟩ := H.out.pure.gonE t hgt
        rw [p1] at o15
        rw [p2] at o16
        rw [hgt] at o11 o14 cg'
        have q15 : w.cell? ⟨k.c + t, 15, none⟩ = some (.pointer none) := o15
        have q16 : w.cell? ⟨k.c + t, 16, none⟩ = some (.pointer none) := o16
        have q11 : w.cell? ⟨k.c + t, 11, none⟩ = some (.int .u8 3) := o11
        have q14 : w.cell? ⟨k.c + t, 14, none⟩ = some (.int .i64 k.now) := o14
        clear o11 o14 o15 o16 p1 p2 hgt
        go_wp2_with fail
        go_quiet (fail)
        go_wp2_with (first | (go_at_call 25; refine (next_any _ _ _ (by simp [*]; rfl)).mono ?_; rintro e w' ⟨rfl, rfl⟩) | (go_at_call 28; refine (prev_any _ _ _ (by simp [*]; rfl)).mono ?_; rintro e w' ⟨rfl, rfl⟩))
        go_roundw
        case rel => exact ⟨t + 1, _, by omega, by go_num, rfl⟩
        case measure => simp [intOf]; omega
      | false =>
        rw [hgt] at o11 o14 cg'
        have q11 : w.cell? ⟨k.c + t, 11, none⟩ = some (.int .u8 0) := o11
        have q14 : w.cell? ⟨k.c + t, 14, none⟩ = some (.int .i64 0) := o14
        clear o11 o14 o15 o16 hgt
        go_wp2_with fail
        go_quiet (fail)
        go_wp2_with fail
        go_roundw
        case rel => exact ⟨t + 1, _, by omega, by go_num, rfl⟩
        case measure => simp [intOf]; omega
    · obtain rfl : t = k.n := by omega
      go_wp2_with fail
      go_ret
      exact ⟨rfl, _, rfl⟩
end Go.Proofs.Qxb6612266a
