import Derived.Test.Qxb6001684aFindWalk39
import Derived.Test.Qxb6001684aFindWalk34
import Derived.Test.Qxb6001684aFindWalk96
namespace Go.Proofs.Qxb6001684a.Find
open Go.ChangeShapes Go.WideShapes Go.ChangeAt Go.RowKit
open Leaf (hide ret_int ret_bool)
set_option linter.unusedVariables false
set_option linter.unusedSimpArgs false

set_option maxHeartbeats 1000000 in
theorem walk (s : ByteArray) (sel : Int) (t : ByteArray) (hs : s.size ≤ maxLen) (ht : t.size ≤ maxLen) (hsl : 0 ≤ sel ∧ sel ≤ 255) (w : World) :
    Calls Try.prog 3 #[.string s, .int .u8 sel, .string t] w fun e w' => e = .returned (.bool true) ∧ Below w.heap.size w w' := by
  by_cases h : s.size + t.size ≤ 1048576
  · by_cases hs2 : s.size ≤ 262144
    · by_cases ht2 : t.size ≤ 262144
      · rcases (show sel % 3 = 0 ∨ sel % 3 = 1 ∨ sel % 3 = 2 by omega) with h3 | h3 | h3
        · exact walk39 s sel t hs ht hsl h hs2 ht2 (by rw [h3]; rfl) (by rw [h3]; rfl) w
        · exact walk34 s sel t hs ht hsl h hs2 ht2 (by rw [h3]; rfl) (by rw [h3]; rfl) w
        · exact walk96 s sel t hs ht hsl h hs2 ht2 (by rw [h3]; rfl) (by rw [h3]; rfl) w
      · have hf := Bytes.fits_yes h
        unfold maxLen at ht
        have d1 : decide ((262144 : Int) < (s.size : Int)) = false := by simp; omega
        have d2 : decide ((262144 : Int) < (t.size : Int)) = true := by simp; omega
        go_enter Try.func3, Try.ntmps3
        go_wp2_with fail
        refine (Bytes.zz10 _ _ _ _ hs ht).mono ?_; rintro e w' ⟨rfl, rfl⟩
        go_wp2
        go_ret
        exact ⟨rfl, Below.refl _ _⟩
    · have hf := Bytes.fits_yes h
      have d1 : decide ((262144 : Int) < (s.size : Int)) = true := by simp; omega
      go_enter Try.func3, Try.ntmps3
      go_wp2_with fail
      refine (Bytes.zz10 _ _ _ _ hs ht).mono ?_; rintro e w' ⟨rfl, rfl⟩
      go_wp2
      go_ret
      exact ⟨rfl, Below.refl _ _⟩
  · have hf := Bytes.fits_no h
    go_enter Try.func3, Try.ntmps3
    go_wp2_with fail
    refine (Bytes.zz10 _ _ _ _ hs ht).mono ?_; rintro e w' ⟨rfl, rfl⟩
    go_wp2
    go_ret
    exact ⟨rfl, Below.refl _ _⟩
end Go.Proofs.Qxb6001684a.Find
