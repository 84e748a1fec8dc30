import Derived.Test.Qxb6001684aRunParts
namespace Go.Proofs.Qxb6001684a.Run
open Go.ChangeShapes Go.WideShapes Go.ChangeAt Go.RowKit
open Leaf (hide ret_int ret_bool)
set_option linter.unusedVariables false
set_option linter.unusedSimpArgs false

set_option maxHeartbeats 4000000 in
theorem main7 (s t : ByteArray) (hs : s.size ≤ maxLen) (ht : t.size ≤ maxLen) (hst : s.size + t.size ≤ 1048576) (w : World) :
    Calls Try.prog 7 #[.string s, .string t] w fun e w' => e = .returned (.bool true) ∧ w' = w := by
  have hf := Bytes.fits_yes hst
  obtain ⟨n, hn⟩ : ∃ n, Plain.runLen Plain.dig s.data.toList = n := ⟨_, rfl⟩
  obtain ⟨hle, hall, hstop, hhead, hrest, happ1, happ2⟩ := facts Plain.dig s t n hn
  have HN := hide hn
  have HALL := hide hall
  have HH := hide hhead
  have HR := hide hrest
  have HDOT := hide (allDot_head s n hle hhead)
  clear hn hall hhead hrest
  have hm : s.size ≤ maxLen := hs
  have hs1 : s.size ≤ 1048576 := by omega
  have ht1 : t.size ≤ 1048576 := by omega
  have d1 : decide ((1048576 : Int) < (s.size : Int)) = false := by simp; omega
  have d2 : decide ((1048576 : Int) < (t.size : Int)) = false := by simp; omega
  have d3 : decide ((1048576 : Int) < (s.size : Int) + (t.size : Int)) = false := decide_eq_false (by omega)
  have d4 : decide ((n : Int) < 0) = false := decide_eq_false (by omega)
  have d6 : decide (s.size < n) = false := by simp; omega
  have hx1 : (s.extract 0 n).size ≤ maxLen := by simp; omega
  have hx2 : (s.extract n s.size).size ≤ maxLen := by simp; omega
  have hx3 : (s ++ t).size ≤ maxLen := by unfold maxLen; simp; omega
  have HX1 := hide hx1; have HX2 := hide hx2; have HX3 := hide hx3
  clear hx1 hx2 hx3
  go_enter Try.func7, Try.ntmps7
  go_wp2_with fail
  refine (Bytes.zz18 _ _ _ hs ht).mono ?_; rintro e w' ⟨rfl, rfl⟩
  go_wp2_with fail
  refine (digs_at _ n _ hs HN.out).mono ?_; rintro e w' ⟨rfl, rfl⟩
  go_wp2
  go_loop [6] (fun i => ∃ j : Nat, j ≤ n ∧ i = .int .i64 j) (fun i => n - (intOf i).toNat)
  case atStart => exact ⟨0, by omega, rfl⟩
  case round =>
    obtain ⟨j, hj2, rfl⟩ := hrel
    by_cases hlt : j < n
    · have hjs : j < s.size := by omega
      have hd := HALL.out j hjs hlt
      go_wp2_with (go_at_call 20; refine (Leaf.zzDig_any _ _).mono ?_; rintro e w' ⟨rfl, rfl⟩)
      go_round
      case rel => exact ⟨j + 1, by omega, by go_num⟩
      case measure => simp [intOf]; omega
    · obtain rfl : j = n := by omega
      clear hj2 hlt
      by_cases hns : j < s.size
      · have hst2 := hstop hns
        have d7 : decide (j < s.size) = true := by simp; omega
        have d8 : ((j : Int) == (s.size : Int)) = false := beq_eq_false_iff_ne.2 (by omega)
        have HAP := hide (happ1 hns)
        clear hstop happ1 happ2
        go_wp2_with (go_at_call 20; refine (Leaf.zzDig_any _ _).mono ?_; rintro e w' ⟨rfl, rfl⟩)
        refine (digs_at _ j _ HX1.out HH.out).mono ?_; rintro e w' ⟨rfl, rfl⟩
        go_wp2_with fail
        refine (digs_at _ 0 _ HX2.out HR.out).mono ?_; rintro e w' ⟨rfl, rfl⟩
        go_wp2_with fail
        refine (dots_at _ true _ HX1.out HDOT.out).mono ?_; rintro e w' ⟨rfl, rfl⟩
        go_wp2_with fail
        refine (digs_at _ j _ HX3.out HAP.out).mono ?_; rintro e w' ⟨rfl, rfl⟩
        go_wp2
        go_ret
        exact ⟨by simp, rfl⟩
      · have hjs : j = s.size := by omega
        have d7 : decide (j < s.size) = false := by simp; omega
        have d8 : ((j : Int) == (s.size : Int)) = true := beq_iff_eq.2 (by omega)
        obtain ⟨m, hm2⟩ : ∃ m, Plain.runLen Plain.dig t.data.toList = m := ⟨_, rfl⟩
        have HAP := hide (happ2 hjs)
        rw [hm2] at HAP
        have hml := Plain.runLen_le Plain.dig t.data.toList
        rw [hm2, Plain.len_list] at hml
        have HM := hide hm2
        clear hstop happ1 happ2 hjs hm2
        go_wp2_with fail
        refine (digs_at _ j _ HX1.out HH.out).mono ?_; rintro e w' ⟨rfl, rfl⟩
        go_wp2_with fail
        refine (digs_at _ 0 _ HX2.out HR.out).mono ?_; rintro e w' ⟨rfl, rfl⟩
        go_wp2_with fail
        refine (dots_at _ true _ HX1.out HDOT.out).mono ?_; rintro e w' ⟨rfl, rfl⟩
        go_wp2_with fail
        refine (digs_at _ m _ ht HM.out).mono ?_; rintro e w' ⟨rfl, rfl⟩
        go_wp2_with fail
        refine (digs_at _ (s.size + m) _ HX3.out HAP.out).mono ?_; rintro e w' ⟨rfl, rfl⟩
        go_wp2
        go_ret
        exact ⟨by simp, rfl⟩

set_option maxHeartbeats 400000 in
theorem walk7 (s t : ByteArray) (hs : s.size ≤ maxLen) (ht : t.size ≤ maxLen) (w : World) :
    Calls Try.prog 7 #[.string s, .string t] w fun e w' => e = .returned (.bool true) ∧ w' = w := by
  by_cases h : s.size + t.size ≤ 1048576
  · exact main7 s t hs ht h w
  · have hf := Bytes.fits_no h
    go_enter Try.func7, Try.ntmps7
    go_wp2_with fail
    refine (Bytes.zz18 _ _ _ hs ht).mono ?_; rintro e w' ⟨rfl, rfl⟩
    go_wp2
    go_ret
    exact ⟨rfl, rfl⟩
end Go.Proofs.Qxb6001684a.Run
