import Derived.Test.Qxb6612299aClone
namespace Go.Proofs.Qxb6612299a
open Go.RowKit

/-- The leaves in memory: six cells each. -/
def Lv (w : World) (lb : Nat) (xs ys : List Int) : Prop :=
  ∀ k, k < xs.length → w.cell? ⟨lb, k * 6, none⟩ = some (.int .i64 0) ∧ w.cell? ⟨lb, k * 6 + 1, none⟩ = some (.int .i64 0) ∧ w.cell? ⟨lb, k * 6 + 2, none⟩ = some (.int .i64 (xs.getD k 0)) ∧
    w.cell? ⟨lb, k * 6 + 3, none⟩ = some (.int .i64 (ys.getD k 0)) ∧ w.cell? ⟨lb, k * 6 + 4, none⟩ = some (.int .i64 0) ∧ w.cell? ⟨lb, k * 6 + 5, none⟩ = some (.pointer none)

/-- What the loops of handedOver know of the instant found so far. -/
structure Cand (m : Int) (xs ys : List Int) (s : Int) : Prop where
  le : s ≤ m
  from_ : s = m ∨ s ∈ xs
  top : ∀ c, c ≤ m → Plain.closedB c xs ys = true → c ≤ s

theorem Cand.jump {m s : Int} {xs ys : List Int} (h : Cand m xs ys s) {k : Nat} (hx : k < xs.length) (hy : k < ys.length) (h1 : s ≤ ys.getD k 0) (h2 : xs.getD k 0 < s) : Cand m xs ys (xs.getD k 0) := by
  have hle := h.le
  have e1 : xs.getD k 0 = xs[k] := by simp [hx]
  have e2 : ys.getD k 0 = ys[k] := by simp [hy]
  rw [e1] at h2 ⊢
  rw [e2] at h1
  refine ⟨by omega, .inr (List.getElem_mem _), Plain.top_jump h.top (y := ys[k]) ?_ h1 h2⟩
  have : (xs.zip ys)[k]'(by simp; omega) = (xs[k], ys[k]) := by simp
  rw [← this]
  exact List.getElem_mem _

theorem closed_take' (c : Int) (xs ys : List Int) (k : Nat) (hx : k < xs.length) (hy : k < ys.length) (h : Plain.closedB c (xs.take k) (ys.take k) = true) (hn : ¬ (c ≤ ys.getD k 0 ∧ xs.getD k 0 < c)) :
    Plain.closedB c (xs.take (k + 1)) (ys.take (k + 1)) = true := by
  rw [closed_take c xs ys k hx hy, h]
  have e1 : xs.getD k 0 = xs[k] := by simp [hx]
  have e2 : ys.getD k 0 = ys[k] := by simp [hy]
  rw [e1, e2] at hn
  simp
  omega

set_option maxHeartbeats 1000000 in
theorem ho_any (kb lb cap : Nat) (m : Int) (xs ys : List Int) (w : World) (hl : xs.length = ys.length) (hn : xs.length ≤ 1025)
    (k12 : w.cell? ⟨kb, 12, none⟩ = some (.int .i64 m)) (k24 : w.cell? ⟨kb, 24, none⟩ = some (.slice (some ⟨lb, 0, none⟩) xs.length cap)) (hlb : lb < w.heap.size) (hlv : Lv w lb xs ys) :
    Calls Try.prog 10 #[.pointer (some ⟨kb, 0, none⟩)] w fun e w' => (∃ s, e = .returned (.tuple #[.int .i64 s, .pointer none, .int .i64 0]) ∧ Plain.Great m xs ys s) ∧ Below w.heap.size w w' := by
  have hl1 : xs.length ≤ ys.length := by omega
  have hl2 : ys.length ≤ xs.length := by omega
  have HL := hid hl
  have hkb := World.block_lt_of_cell? w _ k12
  have LV := hid hlv
  have kL := hid k24
  have k12' : (w.alloc (.cells #[.pointer (some ⟨kb, 0, none⟩)] 35)).cell? ⟨kb, 12, none⟩ = some (.int .i64 m) := (World.cell?_alloc_lt (w := w) _ (a := ⟨kb, 12, none⟩) hkb).trans k12
  clear hl hlv k24
  go_enter Try.func10, Try.ntmps10
  go_wp2_with fail
  go_loopg [2, 5] (2 * Plain.cnt m xs + 1) (fun g s mv wr => ∃ (S : Int) (b : Bool), s = .int .i64 S ∧ mv = .bool b ∧ Hid (g = 2 * Plain.cnt S xs + b.toNat) ∧ Cand m xs ys S ∧ (b = false → Plain.closedB S xs ys = true) ∧ Below (w.heap.size + 1) (w.alloc (.cells #[.pointer (some ⟨kb, 0, none⟩)] 35)) wr)
  case atStart => exact ⟨m, true, rfl, rfl, rfl, ⟨Int.le_refl _, .inl rfl, fun c hc _ => hc⟩, fun h => (by simp at h), Below.refl _ _⟩
  case round =>
    obtain ⟨S0, b0, rfl, rfl, HG, C0, hb0, hbel⟩ := hrel
    cases b0 with
    | true =>
      have a0 : wr.cell? ⟨w.heap.size, 0, none⟩ = some (.pointer (some ⟨kb, 0, none⟩)) := by rw [hbel.cell (p := ⟨w.heap.size, 0, none⟩) (Nat.lt_succ_self _)]; simp [go_sem]
      have a24 : wr.cell? ⟨kb, 24, none⟩ = some (.slice (some ⟨lb, 0, none⟩) xs.length cap) := by rw [hbel.cell (p := ⟨kb, 24, none⟩) (by show kb < _; omega), World.cell?_alloc_lt (w := w) _ (a := ⟨kb, 24, none⟩) hkb]; exact kL.out
      clear hb0
      have HBEL := hid hbel
      have HC0 := hid C0
      clear hbel C0
      go_wp2_with fail
      go_loopw [2, 5, 22] (fun s mv i wq => ∃ (k : Nat) (S : Int) (b : Bool), k ≤ xs.length ∧ i = .int .i64 k ∧ s = .int .i64 S ∧ mv = .bool b ∧ Cand m xs ys S ∧ Hid (b = false → S = S0 ∧ Plain.closedB S (xs.take k) (ys.take k) = true) ∧ Hid (b = true → Plain.cnt S xs < Plain.cnt S0 xs) ∧ Below (w.heap.size + 1) (w.alloc (.cells #[.pointer (some ⟨kb, 0, none⟩)] 35)) wq) (fun _ _ i _ => xs.length - (intOf i).toNat)
      case atStart => exact ⟨0, S0, false, Nat.zero_le _, rfl, rfl, rfl, HC0.out, fun _ => ⟨rfl, rfl⟩, fun h => (by simp at h), HBEL.out⟩
      case round =>
        obtain ⟨k, S, b, hk, rfl, rfl, rfl, C1, hb1, hb2, bel1⟩ := hrel
        by_cases hlt : k < xs.length
        · have hy : k < ys.length := by omega
          have hblt : lb < w.heap.size + 1 := by omega
          obtain ⟨q0, q1, q2, q3, q4, q5⟩ := LV.out k hlt
          have E : ∀ o, wr.cell? ⟨lb, o, none⟩ = w.cell? ⟨lb, o, none⟩ := fun o => (bel1.cell (p := ⟨lb, o, none⟩) hblt).trans (World.cell?_alloc_lt (w := w) _ (a := ⟨lb, o, none⟩) hlb)
          rw [← E] at q0 q1 q2 q3 q4 q5
          clear E
          have J1 := hid (@Cand.jump m S xs ys C1 k hlt hy)
          have T1 := hid (closed_take' S xs ys k hlt hy)
          have G1 := hid (show xs.getD k 0 ∈ xs by simp [hlt])
          generalize xs.getD k 0 = X at *
          generalize ys.getD k 0 = Y at *
          have HC1 := hid C1
          have HBL := hid bel1
          clear C1 bel1
          have hsz : w.heap.size + 1 ≤ wr.heap.size := by have := HBL.out.size; simpa using this
          have HLE := hid (show Plain.cnt S xs ≤ Plain.cnt S0 xs by
            cases b with
            | false => rw [(hb1.out rfl).1]; exact Nat.le_refl _
            | true => exact Nat.le_of_lt (hb2.out rfl))
          by_cases h1 : S ≤ Y
          · by_cases h2 : X < S
            · go_wp2_with fail
              go_roundw
              case rel => exact ⟨k + 1, X, true, by omega, by go_num, rfl, rfl, J1.out h1 h2, fun h => (by simp at h), fun _ => Nat.lt_of_lt_of_le (Plain.cnt_lt G1.out h2) HLE.out, HBL.out.alloc hsz _⟩
              case measure => simp [intOf]; omega
            · go_wp2_with fail
              go_roundw
              case rel => exact ⟨k + 1, S, b, by omega, by go_num, rfl, rfl, HC1.out, fun h => ⟨(hb1.out h).1, T1.out (hb1.out h).2 (by omega)⟩, hb2.out, HBL.out.alloc hsz _⟩
              case measure => simp [intOf]; omega
          · go_wp2_with fail
            go_roundw
            case rel => exact ⟨k + 1, S, b, by omega, by go_num, rfl, rfl, HC1.out, fun h => ⟨(hb1.out h).1, T1.out (hb1.out h).2 (by omega)⟩, hb2.out, HBL.out.alloc hsz _⟩
            case measure => simp [intOf]; omega
        · obtain rfl : k = xs.length := by omega
          have HC1 := hid C1
          have HBL := hid bel1
          clear C1 bel1
          go_wp2_with fail
          go_roundg (2 * Plain.cnt S xs + b.toNat)
          case measure =>
            rw [HG.out]
            cases b with
            | false => rw [(hb1.out rfl).1]; simp
            | true => have := hb2.out rfl; simp; omega
          case rel =>
            refine ⟨S, b, rfl, rfl, rfl, HC1.out, fun h => ?_, HBL.out⟩
            have h3 := (hb1.out h).2
            rw [List.take_length, HL.out, List.take_length] at h3
            exact h3
    | false =>
      have HCL := hid (hb0 rfl)
      have a0 : wr.cell? ⟨w.heap.size, 0, none⟩ = some (.pointer (some ⟨kb, 0, none⟩)) := by rw [hbel.cell (p := ⟨w.heap.size, 0, none⟩) (Nat.lt_succ_self _)]; simp [go_sem]
      have a24 : wr.cell? ⟨kb, 24, none⟩ = some (.slice (some ⟨lb, 0, none⟩) xs.length cap) := by rw [hbel.cell (p := ⟨kb, 24, none⟩) (by show kb < _; omega), World.cell?_alloc_lt (w := w) _ (a := ⟨kb, 24, none⟩) hkb]; exact kL.out
      have HBEL := hid hbel
      have HC0 := hid C0
      clear hb0 hbel C0
      go_wp2_with fail
      go_loopw [3, 4, 44] (fun st hd i wq => ∃ (k : Nat), k ≤ xs.length ∧ i = .int .i64 k ∧ st = .pointer none ∧ hd = .int .i64 0 ∧ Below (w.heap.size + 1) (w.alloc (.cells #[.pointer (some ⟨kb, 0, none⟩)] 35)) wq) (fun _ _ i _ => xs.length - (intOf i).toNat)
      case atStart => exact ⟨0, Nat.zero_le _, rfl, rfl, rfl, HBEL.out⟩
      case round =>
        obtain ⟨k, hk, rfl, rfl, rfl, bel1⟩ := hrel
        by_cases hlt : k < xs.length
        · have hblt : lb < w.heap.size + 1 := by omega
          obtain ⟨q0, q1, q2, q3, q4, q5⟩ := LV.out k hlt
          have E : ∀ o, wr.cell? ⟨lb, o, none⟩ = w.cell? ⟨lb, o, none⟩ := fun o => (bel1.cell (p := ⟨lb, o, none⟩) hblt).trans (World.cell?_alloc_lt (w := w) _ (a := ⟨lb, o, none⟩) hlb)
          rw [← E] at q0 q1 q2 q3 q4 q5
          clear E
          generalize xs.getD k 0 = X at *
          generalize ys.getD k 0 = Y at *
          have hsz : w.heap.size + 1 ≤ wr.heap.size := by have := bel1.size; simpa using this
          have HBL := hid bel1
          clear bel1
          go_wp2_with fail
          go_quiet (fail)
          go_wp2_with fail
          go_roundw
          case rel => exact ⟨k + 1, by omega, by go_num, rfl, rfl, (HBL.out.alloc hsz _).trans ⟨rfl, rfl, rfl, Nat.le_refl _, fun _ _ => rfl⟩⟩
          case measure => simp [intOf]; omega
        · obtain rfl : k = xs.length := by omega
          have HBL := hid bel1
          clear bel1
          go_wp2_with fail
          go_quiet (fail)
          go_wp2_with fail
          go_ret3
          exact ⟨⟨S0, rfl, ⟨HC0.out.le, HC0.out.from_, HCL.out, HC0.out.top⟩⟩, (((Below.refl w.heap.size w).alloc (Nat.le_refl _) _).trans (HBL.out.mono (by omega))).trans ⟨rfl, rfl, rfl, Nat.le_refl _, fun _ _ => rfl⟩⟩
end Go.Proofs.Qxb6612299a
