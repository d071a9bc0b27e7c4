/-
  The book with all that the two laws carry along: what each call says of it.
-/
import Derived.Test.Qxb6612266aBuild
import Derived.OpenShut
namespace Go.Proofs.Qxb6612266a
open Go.RowKit
set_option linter.unusedSimpArgs false
theorem Try.info4 : (Try.prog.info? 4).map (fun i => (i.zero, i.size, i.bytes)) = some (some (.bool false), 1, 1) := by kernel_rfl

/-- WHAT THE WALK IS TOLD OF A SLICE OF INTEGERS THAT CAME IN (the shell's own words). -/
def IsRow (k : IntKind) (w : World) (a : Option Addr) (len cap : Nat) (zs : List Int) : Prop :=
  (a = none ∧ len = 0 ∧ cap = 0 ∧ zs = []) ∨
  ∃ x, a = some x ∧ len ≤ cap ∧ cap ≤ maxLen ∧ zs.length = cap ∧ (∀ i, i < zs.length → w.cell? (x.add i) = some (.int k (zs.getD i 0))) ∧ ∀ n ∈ zs, (Lit.int k n).wf = true

theorem IsRow.pr {w : World} {a : Option Addr} {len cap : Nat} {zs : List Int} (h : IsRow .i64 w a len cap zs) : PrR w.heap.size (fun i => zs.getD i 0) w a len := by
  rcases h with ⟨_, rfl, _, _⟩ | ⟨x, rfl, h1, _, h2, hc, _⟩
  · exact .inl rfl
  · by_cases h0 : len = 0
    · exact .inl h0
    · obtain ⟨b, off, rfl, hc'⟩ := ints_at hc (by omega)
      exact .inr ⟨b, off, rfl, World.block_lt_of_cell? w _ (hc' 0 (by omega)), fun i hi => hc' i (by omega)⟩

theorem IsRow.lenle {w : World} {a : Option Addr} {len cap : Nat} {zs : List Int} (h : IsRow .i64 w a len cap zs) : len ≤ 9223372036854775807 := by
  rcases h with ⟨_, rfl, _, _⟩ | ⟨x, _, h1, h2, _⟩
  · omega
  · unfold maxLen at h2; omega

theorem PrR.mono {B B' : Nat} {P : Nat → Int} {w : World} {oa : Option Addr} {n : Nat} (h : PrR B P w oa n) (hB : B ≤ B') : PrR B' P w oa n := by
  rcases h with h | ⟨b, off, h1, h2, h3⟩
  · exact .inl h
  · exact .inr ⟨b, off, h1, by omega, h3⟩

theorem nodup_le : ∀ (n : Nat) (l : List Nat), l.Nodup → (∀ x, x ∈ l → x < n) → l.length ≤ n
  | 0, l, _, h => by
    cases l with
    | nil => simp
    | cons a r => exact absurd (h a (by simp)) (Nat.not_lt_zero _)
  | n + 1, l, hd, h => by
    have h1 := nodup_le n (l.erase n) (hd.erase n) (fun x hx => by
      have := (hd.mem_erase_iff).1 hx
      have h2 := h x this.2
      have h3 := this.1
      omega)
    rw [List.length_erase] at h1
    split at h1 <;> omega

theorem full {l : List Nat} {n : Nat} (hd : l.Nodup) (hl : l.length = n) (hlt : ∀ x, x ∈ l → x < n) {i : Nat} (hi : i < n) : i ∈ l := by
  by_cases h : i ∈ l
  · exact h
  · have := nodup_le n (i :: l) (List.nodup_cons.2 ⟨h, hd⟩) (fun x hx => by
      rcases List.mem_cons.1 hx with e | e
      · omega
      · exact hlt x e)
    simp at this
    omega

set_option maxRecDepth 100000 in
theorem other_any (s : Int) (w : World) : Calls Try.prog 12 #[.int .u8 s] w fun e w' => e = .returned (.int .u8 (if s = 0 then 1 else 0)) ∧ w' = w := by
  by_cases hs : s = 0
  · subst hs
    go_enter Try.func12, Try.ntmps12
    go_wp2
    go_ret
    exact ⟨rfl, rfl⟩
  · go_enter Try.func12, Try.ntmps12
    go_wp2
    go_ret
    exact ⟨by simp [hs], rfl⟩

structure St (k : Cfg) (ord : List Nat) (gone : Nat → Bool) (op oi oa : Option Addr) (w : World) : Prop where
  inv : ∃ pv nx gs lbs lv, Inv k ord gone gone pv nx gs lbs lv w
  orr : OrR k.c w oa k.n
  prr : PrR k.B0 k.P w op k.n
  idr : IdR ord w oi
  len : ord.length = k.n
  nod : ord.Nodup
  lt : ∀ x, x ∈ ord → x < k.n
  n : k.n ≤ 4096
  sz : k.B0 ≤ w.heap.size

variable {k : Cfg} {ord : List Nat} {gone : Nat → Bool} {op oi oa : Option Addr} {w : World}

theorem St.below (h : St k ord gone op oi oa w) {w' : World} (hb : Below w.heap.size w w') : St k ord gone op oi oa w' := by
  obtain ⟨pv, nx, gs, lbs, lv, hi⟩ := h.inv
  have hf : Fr k.B0 w w' := Fr.of_below hb
  exact ⟨⟨pv, nx, gs, lbs, lv, hi.below hb⟩, h.orr.fr hf, h.prr.fr (hf.below h.sz), h.idr.fr hf, h.len, h.nod, h.lt, h.n, Nat.le_trans h.sz hb.size⟩

theorem St.cancel (h : St k ord gone op oi oa w) {i0 : Nat} (hi : i0 < k.n) (hg : gone i0 = false) :
    Calls Try.prog 9 #[.pointer (some ⟨k.kb, 0, none⟩), .pointer (some ⟨k.c + i0, 0, none⟩), .int .i64 k.now] w fun e w' => e = .returned (.tuple #[]) ∧ St k ord (fun i => if i = i0 then true else gone i) op oi oa w' ∧ Fr k.B0 w w' := by
  obtain ⟨pv, nx, gs, lbs, lv, hI⟩ := h.inv
  have hm : i0 ∈ gs.flatten := by
    rw [← hI.pure.alive]
    exact List.mem_filter.2 ⟨full h.nod h.len h.lt hi, by simp [hg]⟩
  refine (cancel_any i0 hI hm (by rw [h.len]; exact h.n)).mono ?_
  rintro e w' ⟨rfl, h1, hf⟩
  exact ⟨rfl, ⟨h1, h.orr.fr hf, h.prr.fr (hf.below h.sz), h.idr.fr hf, h.len, h.nod, h.lt, h.n, Nat.le_trans h.sz hf.size⟩, hf⟩

theorem St.ladder (h : St k ord gone op oi oa w) {og : Option Addr} (ca cp ci cg : Nat) (hg : GoR gone w og k.n) :
    Calls Try.prog 10 #[.pointer (some ⟨k.kb, 0, none⟩), .int .u8 k.s, .slice op k.n cp, .slice oa k.n ca, .slice oi k.n ci, .slice og k.n cg] w fun e w' => e = .returned (.bool true) ∧ ∃ n, w' = w.drewN n := by
  obtain ⟨pv, nx, gs, lbs, lv, hI⟩ := h.inv
  exact ladderIs_any hI oa op oi og ca cp ci cg h.n h.len h.lt h.orr h.prr h.idr hg

theorem St.orders (h : St k ord gone op oi oa w) {og : Option Addr} (ca cp cg : Nat) (hg : GoR gone w og k.n) :
    Calls Try.prog 13 #[.slice oa k.n ca, .int .u8 k.s, .slice op k.n cp, .slice og k.n cg, .int .i64 k.now] w fun e w' => e = .returned (.bool true) ∧ ∃ n, w' = w.drewN n := by
  obtain ⟨pv, nx, gs, lbs, lv, hI⟩ := h.inv
  exact ordersAre_any hI oa op og ca cp cg h.n h.orr h.prr hg

theorem St.count (h : St k ord gone op oi oa w) :
    Calls Try.prog 11 #[.pointer (some ⟨k.kb, 0, none⟩), .int .u8 (if k.s = 0 then 1 else 0)] w fun e w' => e = .returned (.int .i64 0) ∧ w' = w := by
  obtain ⟨pv, nx, gs, lbs, lv, hI⟩ := h.inv
  refine (count_any k.kb (offOf (if k.s = 0 then 1 else 0)) _ none 0 0 w rfl ?_).mono (fun e w' ⟨h1, h2⟩ => ⟨h1, h2⟩)
  rw [(cells_of hI.book).1]
  unfold bookC offOf
  by_cases hs : k.s = 0 <;> simp [hs]

/-- The book as zzArrange and zzBuildBook lay it. -/
theorem St.made (s now : Int) (P : Nat → Int) (n cp ci : Nat) (op oi : Option Addr) (ord : List Nat) (w w1 : World) (hn : n ≤ 4096) (hp : PrR w.heap.size P w op n) (hb : Below w.heap.size w w1) (h1 : ord.length = n) (h2 : ord.Nodup) (h3 : ∀ x, x ∈ ord → x < n) (h4 : Book.SortedO (s == 0) P ord) (h5 : IdR ord w1 oi) :
    Calls Try.prog 8 #[.int .u8 s, .slice op n cp, .slice oi n ci] w1 fun e w' => e = .returned (.tuple #[.pointer (some ⟨w1.heap.size, 0, none⟩), .slice (some ⟨w1.heap.size + 1, 0, none⟩) n n]) ∧
      St (cfgAt w1.heap.size n s now P) ord (fun _ => false) op oi (some ⟨w1.heap.size + 1, 0, none⟩) w' ∧ Below w.heap.size w w' := by
  have hp1 : PrR w1.heap.size P w1 op n := (hp.fr hb).mono hb.size
  have hbb : (s == 0) = decide (s = 0) := by by_cases e : s = 0 <;> simp [e]
  rw [hbb] at h4
  refine (build_any s now P n op oi cp ci ord w1 hn hp1 h5 h1 h2 h3 h4).mono ?_
  rintro e w' ⟨rfl, hi, ho, hf⟩
  exact ⟨rfl, ⟨hi, ho, hp1.fr (hf.below (Nat.le_refl _)), h5.fr hf, h1, h2, h3, hn, hf.size⟩, hb.trans ((hf.below (Nat.le_refl _)).mono hb.size)⟩
end Go.Proofs.Qxb6612266a
