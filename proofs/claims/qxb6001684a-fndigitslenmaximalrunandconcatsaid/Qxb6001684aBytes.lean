import Derived.Test.Qxb6001684aLeaf
namespace Go.Proofs.Qxb6001684a.Bytes
open Go.ChangeShapes Go.WideShapes Go.ChangeAt Go.RowKit
open Leaf (hide ret_int ret_bool)
set_option linter.unusedVariables false
set_option linter.unusedSimpArgs false

/-- The bound on the total length. -/
def fits (a b : Nat) : Bool := decide (a + b ≤ 1048576)
theorem fits_yes {a b : Nat} (h : a + b ≤ 1048576) : fits a b = true := by simp [fits, h]
theorem fits_no {a b : Nat} (h : ¬ a + b ≤ 1048576) : fits a b = false := by simp [fits]; omega

set_option maxHeartbeats 400000 in
theorem zz12 (s : ByteArray) (q : Int) (t : ByteArray) (w : World) (hs : s.size ≤ maxLen) (ht : t.size ≤ maxLen) :
    Calls Try.prog 12 #[.string s, .int .u8 q, .string t] w fun e w' => e = .returned (.bool (fits s.size t.size)) ∧ w' = w := by
  unfold maxLen at hs ht
  by_cases h1 : s.size ≤ 1048576
  · by_cases h2 : t.size ≤ 1048576
    · by_cases h3 : s.size + t.size ≤ 1048576
      · have hf := hide (fits_yes h3)
        go_enter Try.func12, Try.ntmps12
        go_wp2
        go_ret
        exact ⟨ret_bool hf.out.symm, rfl⟩
      · have hf := hide (fits_no h3)
        go_enter Try.func12, Try.ntmps12
        go_wp2
        go_ret
        exact ⟨ret_bool hf.out.symm, rfl⟩
    · have hf := hide (fits_no (a := s.size) (b := t.size) (by omega))
      go_enter Try.func12, Try.ntmps12
      go_wp2
      go_ret
      exact ⟨ret_bool hf.out.symm, rfl⟩
  · have hf := hide (fits_no (a := s.size) (b := t.size) (by omega))
    go_enter Try.func12, Try.ntmps12
    go_wp2
    go_ret
    exact ⟨ret_bool hf.out.symm, rfl⟩
set_option maxHeartbeats 400000 in
theorem zz10 (s : ByteArray) (q : Int) (t : ByteArray) (w : World) (hs : s.size ≤ maxLen) (ht : t.size ≤ maxLen) :
    Calls Try.prog 10 #[.string s, .int .u8 q, .string t] w fun e w' => e = .returned (.bool (fits s.size t.size)) ∧ w' = w := by
  unfold maxLen at hs ht
  by_cases h1 : s.size ≤ 1048576
  · by_cases h2 : t.size ≤ 1048576
    · by_cases h3 : s.size + t.size ≤ 1048576
      · have hf := hide (fits_yes h3)
        go_enter Try.func10, Try.ntmps10
        go_wp2
        go_ret
        exact ⟨ret_bool hf.out.symm, rfl⟩
      · have hf := hide (fits_no h3)
        go_enter Try.func10, Try.ntmps10
        go_wp2
        go_ret
        exact ⟨ret_bool hf.out.symm, rfl⟩
    · have hf := hide (fits_no (a := s.size) (b := t.size) (by omega))
      go_enter Try.func10, Try.ntmps10
      go_wp2
      go_ret
      exact ⟨ret_bool hf.out.symm, rfl⟩
  · have hf := hide (fits_no (a := s.size) (b := t.size) (by omega))
    go_enter Try.func10, Try.ntmps10
    go_wp2
    go_ret
    exact ⟨ret_bool hf.out.symm, rfl⟩
set_option maxHeartbeats 400000 in
theorem zz15 (s t : ByteArray) (w : World) (hs : s.size ≤ maxLen) (ht : t.size ≤ maxLen) :
    Calls Try.prog 15 #[.string s, .string t] w fun e w' => e = .returned (.bool (fits s.size t.size)) ∧ w' = w := by
  unfold maxLen at hs ht
  by_cases h1 : s.size ≤ 1048576
  · by_cases h2 : t.size ≤ 1048576
    · by_cases h3 : s.size + t.size ≤ 1048576
      · have hf := hide (fits_yes h3)
        go_enter Try.func15, Try.ntmps15
        go_wp2
        go_ret
        exact ⟨ret_bool hf.out.symm, rfl⟩
      · have hf := hide (fits_no h3)
        go_enter Try.func15, Try.ntmps15
        go_wp2
        go_ret
        exact ⟨ret_bool hf.out.symm, rfl⟩
    · have hf := hide (fits_no (a := s.size) (b := t.size) (by omega))
      go_enter Try.func15, Try.ntmps15
      go_wp2
      go_ret
      exact ⟨ret_bool hf.out.symm, rfl⟩
  · have hf := hide (fits_no (a := s.size) (b := t.size) (by omega))
    go_enter Try.func15, Try.ntmps15
    go_wp2
    go_ret
    exact ⟨ret_bool hf.out.symm, rfl⟩
set_option maxHeartbeats 400000 in
theorem zz18 (s t : ByteArray) (w : World) (hs : s.size ≤ maxLen) (ht : t.size ≤ maxLen) :
    Calls Try.prog 18 #[.string s, .string t] w fun e w' => e = .returned (.bool (fits s.size t.size)) ∧ w' = w := by
  unfold maxLen at hs ht
  by_cases h1 : s.size ≤ 1048576
  · by_cases h2 : t.size ≤ 1048576
    · by_cases h3 : s.size + t.size ≤ 1048576
      · have hf := hide (fits_yes h3)
        go_enter Try.func18, Try.ntmps18
        go_wp2
        go_ret
        exact ⟨ret_bool hf.out.symm, rfl⟩
      · have hf := hide (fits_no h3)
        go_enter Try.func18, Try.ntmps18
        go_wp2
        go_ret
        exact ⟨ret_bool hf.out.symm, rfl⟩
    · have hf := hide (fits_no (a := s.size) (b := t.size) (by omega))
      go_enter Try.func18, Try.ntmps18
      go_wp2
      go_ret
      exact ⟨ret_bool hf.out.symm, rfl⟩
  · have hf := hide (fits_no (a := s.size) (b := t.size) (by omega))
    go_enter Try.func18, Try.ntmps18
    go_wp2
    go_ret
    exact ⟨ret_bool hf.out.symm, rfl⟩
set_option maxHeartbeats 400000 in
theorem zz22 (s t : ByteArray) (w : World) (hs : s.size ≤ maxLen) (ht : t.size ≤ maxLen) :
    Calls Try.prog 22 #[.string s, .string t] w fun e w' => e = .returned (.bool (fits s.size t.size)) ∧ w' = w := by
  unfold maxLen at hs ht
  by_cases h1 : s.size ≤ 1048576
  · by_cases h2 : t.size ≤ 1048576
    · by_cases h3 : s.size + t.size ≤ 1048576
      · have hf := hide (fits_yes h3)
        go_enter Try.func22, Try.ntmps22
        go_wp2
        go_ret
        exact ⟨ret_bool hf.out.symm, rfl⟩
      · have hf := hide (fits_no h3)
        go_enter Try.func22, Try.ntmps22
        go_wp2
        go_ret
        exact ⟨ret_bool hf.out.symm, rfl⟩
    · have hf := hide (fits_no (a := s.size) (b := t.size) (by omega))
      go_enter Try.func22, Try.ntmps22
      go_wp2
      go_ret
      exact ⟨ret_bool hf.out.symm, rfl⟩
  · have hf := hide (fits_no (a := s.size) (b := t.size) (by omega))
    go_enter Try.func22, Try.ntmps22
    go_wp2
    go_ret
    exact ⟨ret_bool hf.out.symm, rfl⟩
set_option maxHeartbeats 400000 in
theorem zz25 (s t : ByteArray) (w : World) (hs : s.size ≤ maxLen) (ht : t.size ≤ maxLen) :
    Calls Try.prog 25 #[.string s, .string t] w fun e w' => e = .returned (.bool (fits s.size t.size)) ∧ w' = w := by
  unfold maxLen at hs ht
  by_cases h1 : s.size ≤ 1048576
  · by_cases h2 : t.size ≤ 1048576
    · by_cases h3 : s.size + t.size ≤ 1048576
      · have hf := hide (fits_yes h3)
        go_enter Try.func25, Try.ntmps25
        go_wp2
        go_ret
        exact ⟨ret_bool hf.out.symm, rfl⟩
      · have hf := hide (fits_no h3)
        go_enter Try.func25, Try.ntmps25
        go_wp2
        go_ret
        exact ⟨ret_bool hf.out.symm, rfl⟩
    · have hf := hide (fits_no (a := s.size) (b := t.size) (by omega))
      go_enter Try.func25, Try.ntmps25
      go_wp2
      go_ret
      exact ⟨ret_bool hf.out.symm, rfl⟩
  · have hf := hide (fits_no (a := s.size) (b := t.size) (by omega))
    go_enter Try.func25, Try.ntmps25
    go_wp2
    go_ret
    exact ⟨ret_bool hf.out.symm, rfl⟩
end Go.Proofs.Qxb6001684a.Bytes
