import Derived.Test.Qxb6612271aRows
import Derived.WalkKit
import Derived.ProofKit
import Derived.ShutString
import Derived.WalkLawsBesides
import Derived.WalkSpells
namespace Go.Proofs.Qxb6612271a
open Go.ChangeShapes Go.WideShapes Go.ChangeAt Go.RowKit
open Go.ChangeMaps (open_string shut_string)

/-- The clause's fixed head, as its bytes. -/
def headBytes : ByteArray := ⟨([82, 69, 84, 85, 82, 78, 73, 78, 71, 32, 115, 46, 106, 111, 98, 95, 105, 100, 44, 32, 115, 46, 112, 111, 115, 105, 116, 105, 111, 110, 44, 32, 115, 46, 110, 97, 109, 101, 44, 32, 115, 46, 115, 116, 97, 116, 117, 115, 44, 32, 115, 46, 97, 116, 116, 101, 109, 112, 116, 44, 32].append [115, 46, 119, 111, 114, 107, 101, 114, 44, 32, 115, 46, 101, 114, 114, 111, 114, 44, 32, 115, 46, 114, 101, 115, 117, 108, 116, 44, 32, 115, 46, 114, 101, 97, 100, 121, 95, 97, 116, 44, 32, 115, 46, 108, 101, 97, 115, 101, 95, 101, 120, 112, 105, 114, 101, 115, 95, 97, 116, 44, 32]).toArray⟩
/-- All of the clause ahead of the flag. -/
def pre (a b : ByteArray) : ByteArray := headBytes ++ a ++ ⟨#[58, 58, 116, 101, 120, 116, 32, 65, 83, 32, 102, 114, 111, 109, 95, 115, 116, 97, 116, 117, 115, 44, 32]⟩ ++ b ++ ⟨#[58, 58, 116, 101, 120, 116, 32, 65, 83, 32, 114, 101, 97, 115, 111, 110, 44, 32]⟩

theorem pre_size (a b : ByteArray) (ha : a.size ≤ 524288) (hb : b.size ≤ 524288) : (pre a b).size ≤ 1048800 := by
  have h0 : headBytes.size = 122 := by decide +kernel
  have h1 : (⟨#[58, 58, 116, 101, 120, 116, 32, 65, 83, 32, 102, 114, 111, 109, 95, 115, 116, 97, 116, 117, 115, 44, 32]⟩ : ByteArray).size = 23 := by decide +kernel
  have h2 : (⟨#[58, 58, 116, 101, 120, 116, 32, 65, 83, 32, 114, 101, 97, 115, 111, 110, 44, 32]⟩ : ByteArray).size = 18 := by decide +kernel
  rw [pre, ByteArray.size_append, ByteArray.size_append, ByteArray.size_append, ByteArray.size_append, h0, h1, h2]
  omega

theorem ext_tail (P S : ByteArray) (h : S.size = 15) : (P ++ S).extract P.size (P.size + 15) = S := by
  rw [← h]
  apply ByteArray.ext
  simp only [ByteArray.data_extract, ByteArray.data_append, Array.extract_append, ByteArray.size_data]
  rw [Array.extract_eq_empty_of_le (by simp), show P.size - P.size = 0 from by omega, show P.size + S.size - P.size = S.size from by omega, ← ByteArray.size_data, Array.extract_size]
  simp

theorem ne_lists (P S T : ByteArray) (h : S.size ≠ T.size) : ((P ++ S).toList == (P ++ T).toList) = false := by
  rw [beq_eq_false_iff_ne]
  intro e
  rw [ByteArray.toList_eq, ByteArray.toList_eq] at e
  have e1 := congrArg List.length e
  simp at e1
  exact h e1

theorem ext_head (P S : ByteArray) : (P ++ S).extract 0 P.size = P := by
  apply ByteArray.ext
  simp [ByteArray.data_extract, ByteArray.data_append, Array.extract_append]

set_option maxHeartbeats 400000 in
theorem returned_true (a b : ByteArray) (w : World) (ha : a.size ≤ 524288) (hb : b.size ≤ 524288) :
    Calls Try.prog 13 #[.string a, .string b, .bool true] w fun e w' => e = .returned (.string (pre a b ++ ⟨#[116, 114, 117, 101, 32, 65, 83, 32, 111, 112, 101, 110, 101, 100]⟩)) ∧ w' = w := by
  go_enter Try.func13, Try.ntmps13
  go_wp2
  go_ret
  refine ⟨?_, rfl⟩
  rw [show (⟨#[116, 114, 117, 101, 32, 65, 83, 32, 111, 112, 101, 110, 101, 100]⟩ : ByteArray) = ⟨#[116, 114, 117, 101]⟩ ++ ⟨#[32, 65, 83, 32, 111, 112, 101, 110, 101, 100]⟩ from by decide, ← ByteArray.append_assoc]
  rfl

set_option maxHeartbeats 400000 in
theorem returned_false (a b : ByteArray) (w : World) (ha : a.size ≤ 524288) (hb : b.size ≤ 524288) :
    Calls Try.prog 13 #[.string a, .string b, .bool false] w fun e w' => e = .returned (.string (pre a b ++ ⟨#[102, 97, 108, 115, 101, 32, 65, 83, 32, 111, 112, 101, 110, 101, 100]⟩)) ∧ w' = w := by
  go_enter Try.func13, Try.ntmps13
  go_wp2
  go_ret
  refine ⟨?_, rfl⟩
  rw [show (⟨#[102, 97, 108, 115, 101, 32, 65, 83, 32, 111, 112, 101, 110, 101, 100]⟩ : ByteArray) = ⟨#[102, 97, 108, 115, 101]⟩ ++ ⟨#[32, 65, 83, 32, 111, 112, 101, 110, 101, 100]⟩ from by decide, ← ByteArray.append_assoc]
  rfl

theorem zzreturned_any (a b : ByteArray) (w : World) (ha : a.size ≤ 524288) (hb : b.size ≤ 524288) :
    Calls Try.prog 11 #[.string a, .string b, .bool true] w fun e w' => e = .returned (.string (pre a b ++ ⟨#[116, 114, 117, 101, 32, 65, 83, 32, 111, 112, 101, 110, 101, 100]⟩)) ∧ w' = w := by
  go_enter Try.func11, Try.ntmps11
  go_wp2_with (go_at_call 13; refine (returned_true a b _ ha hb).mono ?_; rintro e w' ⟨rfl, rfl⟩)
  go_ret
  exact ⟨rfl, rfl⟩

theorem zzreturning_any (a b : ByteArray) (w : World) (ha : a.size ≤ 524288) (hb : b.size ≤ 524288) :
    Calls Try.prog 6 #[.string a, .string b] w fun e w' => e = .returned (.string (pre a b ++ ⟨#[102, 97, 108, 115, 101, 32, 65, 83, 32, 111, 112, 101, 110, 101, 100]⟩)) ∧ w' = w := by
  go_enter Try.func6, Try.ntmps6
  go_wp2_with (first | (go_at_call 13; refine (returned_false a b _ ha hb).mono ?_; rintro e w' ⟨rfl, rfl⟩) | go_in)
  go_ret
  exact ⟨rfl, rfl⟩

/-- A tail is a suffix. -/
theorem suffix_any (P S : ByteArray) (w : World) (hP : P.size ≤ 1048800) (hS : S.size = 15) :
    Calls Try.prog 9 #[.string (P ++ S), .string S] w fun e w' => e = .returned (.bool true) ∧ w' = w := by
  have h1 : (P ++ S).size ≤ 1048815 := by rw [ByteArray.size_append]; omega
  have h2 : 15 ≤ (P ++ S).size := by rw [ByteArray.size_append]; omega
  go_enter Try.func9, Try.ntmps9
  go_wp2_with fail
  go_ret
  exact ⟨by rw [ext_tail P S hS]; simp, rfl⟩

set_option linter.unusedVariables false in
set_option maxHeartbeats 400000 in
theorem walk (a0 : ByteArray) (a1 : ByteArray) (w0 : a0.size ≤ maxLen) (w1 : a1.size ≤ maxLen) (w : World) :
    Calls Try.prog 4 #[.string a0, .string a1] w fun e w' => e = .returned (.bool true) ∧ Grown w w' := by
  unfold maxLen at w0 w1
  by_cases h : a0.size + a1.size ≤ 1048576
  · by_cases ha : a0.size ≤ 524288
    · by_cases hb : a1.size ≤ 524288
      · have hP := pre_size a0 a1 ha hb
        have c6 := fun w => zzreturning_any a0 a1 w ha hb
        have c11 := fun w => zzreturned_any a0 a1 w ha hb
        generalize pre a0 a1 = P at hP c6 c11
        have C6 : Hid _ := c6
        have C11 : Hid _ := c11
        clear c6 c11
        have hx := ext_head P ⟨#[102, 97, 108, 115, 101, 32, 65, 83, 32, 111, 112, 101, 110, 101, 100]⟩
        have hne := ne_lists P ⟨#[116, 114, 117, 101, 32, 65, 83, 32, 111, 112, 101, 110, 101, 100]⟩ ⟨#[102, 97, 108, 115, 101, 32, 65, 83, 32, 111, 112, 101, 110, 101, 100]⟩ (by decide)
        go_enter Try.func4, Try.ntmps4
        go_wp2_with (first | (go_at_call 6; refine (C6.out _).mono ?_; rintro e w' ⟨rfl, rfl⟩) | (go_at_call 11; refine (C11.out _).mono ?_; rintro e w' ⟨rfl, rfl⟩) | (go_at_call 9; refine (suffix_any P _ _ hP rfl).mono ?_; rintro e w' ⟨rfl, rfl⟩) | go_in)
        go_ret
        exact ⟨rfl, Grown.refl _⟩
      · go_enter Try.func4, Try.ntmps4
        go_wp2
        all_goals (go_ret; exact ⟨rfl, Grown.refl _⟩)
    · go_enter Try.func4, Try.ntmps4
      go_wp2
      all_goals (go_ret; exact ⟨rfl, Grown.refl _⟩)
  · go_enter Try.func4, Try.ntmps4
    go_wp2
    all_goals (go_ret; exact ⟨rfl, Grown.refl _⟩)
end Go.Proofs.Qxb6612271a
