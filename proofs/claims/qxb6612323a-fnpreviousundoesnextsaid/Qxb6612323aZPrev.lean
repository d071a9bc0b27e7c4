/- text.ZZprevious walked, over whatever it hands on. -/
import Derived.Test.Qxb6612323aPrev
import Derived.WalkKit
import Derived.WalkLawsBesides
import Derived.WalkSpells
import Derived.Deep.MidRow
import Derived.Laws.Rows
import Derived.Below
namespace Go.Proofs.Qxb6612323a
open Go.RowKit

theorem Try.info26 : (Try.prog.info? 26).map (·.size) = some 17 := by kernel_rfl

theorem below_setCells {B : Nat} {a : World} (b : Nat) (hb : B ≤ b) : ∀ (vs : List Value) (o : Nat) (v0 : World), Below B a v0 → Below B a (v0.setCells b o vs)
  | [], _, _, h => h
  | v :: vs, o, _, h => below_setCells b hb vs (o + 1) _ (h.setCell (p := ⟨b, o, none⟩) hb v)

set_option maxHeartbeats 400000 in
theorem zzprevious_of (cs ds : Array Value) (b : Bool) (w : World) (hcs : cs.size = 17) (hds : ds.size = 17) (h1 : ds.all (·.oneCell') = true)
    (hC : ∀ w, Calls Try.prog 5 #[.agg cs] w fun e w' => e = .returned (.tuple #[.agg ds, .bool b]) ∧ Below w.heap.size w w') :
    Calls Try.prog 4 #[.agg cs] w fun e w' => e = .returned (.tuple #[.agg ds, .bool b]) ∧ Below w.heap.size w w' := by
  have HC : Hid (∀ w, Calls Try.prog 5 #[.agg cs] w fun e w' => e = .returned (.tuple #[.agg ds, .bool b]) ∧ Below w.heap.size w w') := hC
  have hg : Hid (∀ o, ((w.alloc (.cells cs 26)).alloc o).heap[w.heap.size]? = some (.cells cs 26 (0, 0))) := fun o => (Below.heap_alloc _ _ _ (by simp)).trans (heap_alloc_new w _)
  have hi1 : Hid ((Try.prog.info? 26).map (·.size) = some cs.size) := by rw [hcs]; exact Try.info26
  have hi2 : Hid ((Try.prog.info? 26).map (·.size) = some ds.size) := by rw [hds]; exact Try.info26
  have H1 : Hid (ds.all (·.oneCell') = true) := h1
  have HDS : Hid (ds.size = 17) := hds
  clear hC hcs hds h1
  go_enter Try.func4, Try.ntmps4
  go_wp2_with (first
    | (refine wpList_load_row rfl 26 (.tmp 1) rfl w.heap.size rfl 26 cs (0, 0) _ (hg.out _) Try.underlying26 rfl hi1.out ?_))
  refine (HC.out _).mono ?_
  rintro e w1 ⟨rfl, hb⟩
  have hz : w.heap.size + 1 < w1.heap.size := by have := hb.size; simp at this; omega
  have hth : w1.there (w.heap.size + 1) 0 ds.size := fun j hj => by
    rw [HDS.out] at hj
    have hc := hb.cell (p := ⟨w.heap.size + 1, 0 + j, none⟩) (by simp)
    have hf := hb.frozen (p := ⟨w.heap.size + 1, 0 + j, none⟩) (by simp)
    rw [hc, hf]
    refine ⟨?_, by simp [go_sem]⟩
    simp only [go_sem, World.size_alloc]
    simp
    omega
  have HT : Hid (w1.there (w.heap.size + 1) 0 ds.size) := hth
  have HB : Hid _ := hb
  clear hth hb
  go_wp2_with (refine wpList_store_mid rfl 26 (.tmp 2) (.tmp 6) rfl (w.heap.size + 1) 0 ds rfl rfl HT.out hi2.out H1.out ?_)
  have hld : (loadVar 26 ⟨w.heap.size + 1, 0, none⟩).run Try.prog (w1.setCells (w.heap.size + 1) 0 ds.toList) = .ok (.agg ds) (w1.setCells (w.heap.size + 1) 0 ds.toList) := by
    have h := run_loadVar_mid (P := Try.prog) (w1.setCells (w.heap.size + 1) 0 ds.toList) (w.heap.size + 1) 0 26 ds.toList _ (World.rangeAt_setCells_same w1 _ _ _ (by simpa using HT.out)) Try.underlying26 rfl (by simpa using hi2.out)
    simpa using h
  refine bodyPost_ret (v := .tuple #[.agg ds, .bool b]) (by simp [results, Try.results4, asAddr, hld]) rfl ⟨rfl, ?_⟩
  exact below_setCells _ (by omega) _ _ _ ((((Below.refl w.heap.size w).alloc (Nat.le_refl _) _).alloc (by simp) _).trans (HB.out.mono (by simp; omega)))
end Go.Proofs.Qxb6612323a
