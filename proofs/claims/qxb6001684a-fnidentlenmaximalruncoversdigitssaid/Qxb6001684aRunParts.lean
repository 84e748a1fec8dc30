import Derived.Test.Qxb6001684aBytes
/- The facts that the laws on maximal runs ask, at a string. -/
namespace Go.Proofs.Qxb6001684a.Run
open Go.ChangeShapes Go.WideShapes Go.ChangeAt Go.RowKit
open Leaf (hide ret_int ret_bool)
set_option linter.unusedVariables false

theorem ext_to_end (s : ByteArray) (k : Nat) : (s.extract k s.size).data.toList = s.data.toList.drop k := by
  rw [Plain.ext_list, List.take_of_length_le]
  simp
theorem ext_head (s : ByteArray) (k : Nat) : (s.extract 0 k).data.toList = s.data.toList.take k := by
  rw [Plain.ext_list]; simp
theorem digs_at (x : ByteArray) (n : Nat) (w : World) (hs : x.size ≤ maxLen) (h : Plain.runLen Plain.dig x.data.toList = n) :
    Calls Try.prog 19 #[.string x] w fun e w' => e = .returned (.int .i64 n) ∧ w' = w := by
  have := Leaf.zzDigitsLen_any x w hs
  rw [h] at this
  exact this
theorem idents_at (x : ByteArray) (n : Nat) (w : World) (hs : x.size ≤ maxLen) (h : Plain.runLen Plain.idn x.data.toList = n) :
    Calls Try.prog 23 #[.string x] w fun e w' => e = .returned (.int .i64 n) ∧ w' = w := by
  have := Leaf.zzIdentLen_any x w hs
  rw [h] at this
  exact this
theorem dots_at (x : ByteArray) (b : Bool) (w : World) (hs : x.size ≤ maxLen) (h : Plain.allDot x.data.toList = b) :
    Calls Try.prog 21 #[.string x] w fun e w' => e = .returned (.bool b) ∧ w' = w := by
  have := Leaf.zzDecimalOnly_any x w hs
  rw [h] at this
  exact this
theorem has_at (x : ByteArray) (c : Int) (b : Bool) (w : World) (hs : x.size ≤ maxLen) (h : Plain.hasB c x.data.toList = b) :
    Calls Try.prog 26 #[.string x, .int .u8 c] w fun e w' => e = .returned (.bool b) ∧ w' = w := by
  have := Leaf.hasByte_any x c w hs
  rw [h] at this
  exact this

/-- A maximal run at a string. -/
theorem facts (p : UInt8 → Bool) (s t : ByteArray) (n : Nat) (hn : Plain.runLen p s.data.toList = n) :
    n ≤ s.size ∧ (∀ i (hi : i < s.size), i < n → p s[i] = true) ∧ (∀ h : n < s.size, p s[n] = false) ∧
    Plain.runLen p (s.extract 0 n).data.toList = n ∧ Plain.runLen p (s.extract n s.size).data.toList = 0 ∧
    (n < s.size → Plain.runLen p (s ++ t).data.toList = n) ∧
    (n = s.size → Plain.runLen p (s ++ t).data.toList = s.size + Plain.runLen p t.data.toList) := by
  subst hn
  have hle := Plain.runLen_le p s.data.toList
  rw [Plain.len_list] at hle
  refine ⟨hle, fun i hi h => Plain.runLen_all p s.data.toList i h, fun h => Plain.runLen_stop p s.data.toList (by rw [Plain.len_list]; exact h), ?_, ?_, fun h => ?_, fun h => ?_⟩
  · rw [ext_head, Plain.runLen_take]
  · rw [ext_to_end, Plain.runLen_drop]
  · rw [Plain.app_list, Plain.runLen_app, Plain.len_list, if_neg (by omega)]
  · rw [Plain.app_list, Plain.runLen_app, Plain.len_list, if_pos h]
theorem allDot_head (s : ByteArray) (n : Nat) (h1 : n ≤ s.size) (hn : Plain.runLen Plain.dig (s.extract 0 n).data.toList = n) : Plain.allDot (s.extract 0 n).data.toList = true := by
  refine Plain.allDot_of_run ?_
  rw [hn, Plain.len_list]
  simp
  omega
theorem dig_idn {c : UInt8} (h : Plain.dig c = true) : Plain.idn c = true := by simp [Plain.idn, h]
end Go.Proofs.Qxb6001684a.Run
