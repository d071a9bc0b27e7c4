import Derived.Test.Qxb6612266aLrem
import Derived.Deep.RegionLaw
import Derived.Lib.SliceRun
namespace Go.Proofs.Qxb6612266a
open Go.RowKit

theorem Try.info74 : (Try.prog.info? 74).map (fun i => (i.zero, i.size, i.bytes)) = some (some (.pointer none), 1, 8) := by kernel_rfl
theorem Try.zero74 (w : World) : (zeroValue 74).run Try.prog w = .ok (.pointer none) w := by kernel_rfl

theorem row_setCells (b t n : Nat) : ∀ (vs : List Value) (o : Nat) (w : World) (f : Nat → Value), w.rowIs b t n f → (w.setCells b o vs).rowIs b t n (fun j => if o ≤ j ∧ j < o + vs.length then vs.getD (j - o) (.pointer none) else f j)
  | [], o, w, f, h => h.congr (fun j _ => by rw [if_neg (by simp)])
  | v :: vs, o, w, f, h => (row_setCells b t n vs (o + 1) _ _ (h.set o v)).congr (fun j _ => by
      by_cases h1 : j = o
      · subst h1
        rw [if_neg (by omega), if_pos rfl, if_pos (by simp)]
        simp
      · by_cases h2 : o + 1 ≤ j ∧ j < o + 1 + vs.length
        · rw [if_pos h2, if_pos (by simp; omega)]
          obtain ⟨d, rfl⟩ : ∃ d, j = o + 1 + d := ⟨j - (o + 1), by omega⟩
          rw [show o + 1 + d - (o + 1) = d from by omega, show o + 1 + d - o = d + 1 from by omega]
          simp
        · rw [if_neg h2, if_neg h1, if_neg (by simp; omega)])

theorem kp_setCells {S : Nat → Prop} {a : World} (b : Nat) (hb : S b) : ∀ (vs : List Value) (o : Nat) (v0 : World), Kp S a v0 → Kp S a (v0.setCells b o vs)
  | [], _, _, h => h
  | v :: vs, o, _, h => kp_setCells b hb vs (o + 1) _ (h.setCell (p := ⟨b, o, none⟩) v hb)

/-- The cells that are moved one to the left. -/
def movedL (f : Nat → Value) (i M : Nat) : List Value := (List.range (M - i)).map (fun j => f (i + 1 + j))
theorem movedL_length (f : Nat → Value) (i M : Nat) : (movedL f i M).length = M - i := by simp [movedL]
theorem movedL_get (f : Nat → Value) (i M j : Nat) (h : j < M - i) : (movedL f i M).getD j (.pointer none) = f (i + 1 + j) := by simp [movedL, h]

set_option maxHeartbeats 1600000 in
set_option maxRecDepth 1000000 in
/-- slices.Delete of one level. -/
theorem delete_any (lb M cap i : Nat) (f : Nat → Value) (w : World) (hi : i ≤ M) (hm : M < cap) (_hcap : cap ≤ 9223372036854775807) (hrow : w.rowIs lb 74 cap f) (h1 : ∀ j, j ≤ M → (f j).oneCell' = true) :
    Calls Try.prog 32 #[.slice (some ⟨lb, 0, none⟩) (M + 1) cap, .int .i64 i, .int .i64 ((i : Int) + 1)] w fun e w' => e = .returned (.slice (some ⟨lb, 0, none⟩) M cap) ∧
      (∃ f', w'.rowIs lb 74 cap f' ∧ (∀ j, j < i → f' j = f j) ∧ (∀ j, i ≤ j → j < M → f' j = f (j + 1))) ∧ Kp (· = lb) w w' := by
  obtain ⟨i0, hi0, hz0, hz1, hz2⟩ := info_parts Try.info74
  obtain ⟨A, hA, hnews⟩ : ∃ A : Addr, (if cap = i + 1 then some (⟨lb, 0, none⟩ : Addr) else some ⟨lb, i + 1, none⟩) = some A ∧ Hid (∀ j u, (movedL f i M)[j]? = some u → w.drew.cell? (A.add j) = some u) := by
    by_cases h : cap = i + 1
    · refine ⟨⟨lb, 0, none⟩, by simp [h], fun j u hu => ?_⟩
      have h0 : (movedL f i M).length = 0 := by rw [movedL_length]; omega
      rw [List.length_eq_zero_iff.1 h0] at hu
      simp at hu
    · refine ⟨⟨lb, i + 1, none⟩, by simp [h], fun j u hu => ?_⟩
      have hj : j < M - i := by
        have := (List.getElem?_eq_some_iff.1 hu).1
        rwa [movedL_length] at this
      rw [Addr.add_lit]
      have e : u = f (i + 1 + j) := by simpa [movedL, hj] using hu.symm
      rw [e]
      exact hrow.cell (by omega)
  have s1 : Hid ((movedL f i M).length = (M - i) * 1) := by rw [Nat.mul_one]; exact movedL_length f i M
  have s2 : Hid (∀ u ∈ movedL f i M, u.oneCell' = true) := by
    intro u hu
    obtain ⟨x, hx, rfl⟩ := List.mem_map.1 hu
    simp at hx
    exact h1 _ (by omega)
  have s3 : Hid (∀ j, j < (movedL f i M).length → (w.drew.cell? ⟨lb, 0 + i * 1 + j, none⟩).isSome = true ∧ w.drew.frozen? ⟨lb, 0 + i * 1 + j, none⟩ = false) := by
    intro j hj
    rw [movedL_length] at hj
    rw [Nat.mul_one, Nat.zero_add]
    exact ⟨by show (w.cell? _).isSome = true; rw [hrow.cell (by omega)]; rfl, hrow.frozen _⟩
  have hrow1 := row_setCells lb 74 cap (movedL f i M) i w.drew f hrow
  have hclr := fun ty => Lib.run_clear_slice (P := Try.prog) (w.drew.setCells lb i (movedL f i M)) 68 74 ty (.pointer none) Try.underlying68 Try.zero74 rfl rfl lb M 1 (cap - M) (by omega)
    (fun j hj => by rw [hrow1.cell (by omega)]; rfl) (fun j _ => hrow1.frozen _)
  have HF := hid (row_setCells lb 74 cap [.pointer none] M _ _ hrow1)
  have HK := hid (kp_setCells (S := (· = lb)) lb rfl [.pointer none] M _ (kp_setCells (S := (· = lb)) lb rfl (movedL f i M) i _ (Kp.refl (· = lb) w).drew))
  have hic : i ≤ cap := by omega
  have hic1 : i + 1 ≤ cap := by omega
  have him : i + 1 ≤ M + 1 := by omega
  have hp0 : (0 : Int) ≤ (i : Int) + 1 := by omega
  have hp1 : (i : Int) + 1 ≤ (M : Int) + 1 := by omega
  have hp2 : ((i : Int) + 1).toNat = i + 1 := by omega
  have hne : ((i : Int) == (i : Int) + 1) = false := by simp; omega
  have hM1 : i + (M - i) = M := by omega
  have hM2 : ¬ cap = M := by omega
  have hM3 : (i : Int) + ((M - i : Nat) : Int) = (M : Int) := by omega
  clear hrow h1 hrow1
  go_enter Try.func32, Try.ntmps32
  go_wp2_with fail
  go_region_law (refine step_append_room rfl (.tmp 22) (.tmp 25) 68 rfl 74 i0 1 Try.underlying68 hi0 hz1 lb 0 i cap (by simp [Act.eval, Act.put]) A (M - i) (cap - (i + 1)) (movedL f i M) (by simp [Act.eval, Act.put]) s1.out hnews.out s2.out (by omega) s3.out ?_)
  go_wp2_with fail
  go_ret
  refine ⟨rfl, ⟨_, HF.out, fun j hj => ?_, fun j h2 h3 => ?_⟩, HK.out⟩
  · show (if _ then _ else _) = _
    rw [if_neg (by simp; omega), if_neg (by omega)]
  · show (if _ then _ else _) = _
    rw [if_neg (by simp; omega), if_pos (by rw [movedL_length]; omega), movedL_get _ _ _ _ (by omega), show i + 1 + (j - i) = j + 1 from by omega]
end Go.Proofs.Qxb6612266a
