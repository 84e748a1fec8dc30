import Derived.Test.Qxb6001684aExpWalk
namespace Go.Proofs.Qxb6001684a.Exp
open Go.ChangeShapes Go.WideShapes Go.ChangeAt Go.RowKit
open Leaf (hide ret_int ret_bool)
set_option linter.unusedVariables false
set_option linter.unusedSimpArgs false

set_option maxHeartbeats 4000000 in
/-- No exponent starts: four ways. -/
theorem law_no (s t : ByteArray) (hs : s.size ≤ maxLen) (ht : t.size ≤ maxLen) (hst : s.size + t.size ≤ 1048576) (hs2 : s.size ≤ 524288) (ht2 : t.size ≤ 524288) (w : World)
    (hx : Plain.expLen s.data.toList = 0)
    (hno : s.size < 2 ∨ (∃ h : 1 < s.size, Plain.isE s[0] = false) ∨ (∃ h : 1 < s.size, Plain.dig s[1] = false ∧ Plain.isS s[1] = false) ∨ (∃ h : 1 < s.size, Plain.dig s[1] = false ∧ (((s[1].toNat : Int) == 43) = true ∨ ((s[1].toNat : Int) == 43) = false ∧ ((s[1].toNat : Int) == 45) = true) ∧ (s.size = 2 ∨ ∃ h : 2 < s.size, Plain.dig s[2] = false))) :
    Calls Try.prog 6 #[.string s, .string t] w fun e w' => e = .returned (.bool true) ∧ w' = w := by
  have hf := Bytes.fits_yes hst
  have HX := hide hx; clear hx
  have d1 : decide ((524288 : Int) < (s.size : Int)) = false := by simp; omega
  have d2 : decide ((524288 : Int) < (t.size : Int)) = false := by simp; omega
  rcases hno with h | ⟨h, he⟩ | ⟨h, hd, hS⟩ | ⟨h, hd, hS, h2⟩
  · have d3 : decide ((3 : Int) ≤ (s.size : Int)) = false := by simp; omega
    have d4 : decide ((2 : Int) ≤ (s.size : Int)) = false := by simp; omega
    go_enter Try.func6, Try.ntmps6
    go_wp2_with fail
    refine (Bytes.zz15 _ _ _ hs ht).mono ?_; rintro e w' ⟨rfl, rfl⟩
    go_wp2_with fail
    refine (zzExp_at _ 0 _ (by omega) HX.out).mono ?_; rintro e w' ⟨rfl, rfl⟩
    go_wp2
    go_ret
    exact ⟨rfl, rfl⟩
  · have hE1 : ((s[0].toNat : Int) == 101) = false := by simp [Plain.isE] at he ⊢; omega
    have hE2 : ((s[0].toNat : Int) == 69) = false := by simp [Plain.isE] at he ⊢; omega
    clear he
    have d4 : decide ((2 : Int) ≤ (s.size : Int)) = true := by simp; omega
    by_cases h3 : 2 < s.size
    · have d3 : decide ((3 : Int) ≤ (s.size : Int)) = true := by simp; omega
      go_enter Try.func6, Try.ntmps6
      go_wp2_with fail
      refine (Bytes.zz15 _ _ _ hs ht).mono ?_; rintro e w' ⟨rfl, rfl⟩
      go_wp2_with fail
      refine (zzExp_at _ 0 _ (by omega) HX.out).mono ?_; rintro e w' ⟨rfl, rfl⟩
      go_wp2_with (go_at_call 17; refine (Leaf.g1Dig_any _ _).mono ?_; rintro e w' ⟨rfl, rfl⟩)
      all_goals
        go_ret
        exact ⟨rfl, rfl⟩
    · have d3 : decide ((3 : Int) ≤ (s.size : Int)) = false := by simp; omega
      go_enter Try.func6, Try.ntmps6
      go_wp2_with fail
      refine (Bytes.zz15 _ _ _ hs ht).mono ?_; rintro e w' ⟨rfl, rfl⟩
      go_wp2_with fail
      refine (zzExp_at _ 0 _ (by omega) HX.out).mono ?_; rintro e w' ⟨rfl, rfl⟩
      go_wp2
      go_ret
      exact ⟨rfl, rfl⟩
  · have hS1 : ((s[1].toNat : Int) == 43) = false := by simp [Plain.isS] at hS ⊢; omega
    have hS2 : ((s[1].toNat : Int) == 45) = false := by simp [Plain.isS] at hS ⊢; omega
    clear hS
    have d4 : decide ((2 : Int) ≤ (s.size : Int)) = true := by simp; omega
    by_cases h3 : 2 < s.size
    · have d3 : decide ((3 : Int) ≤ (s.size : Int)) = true := by simp; omega
      go_enter Try.func6, Try.ntmps6
      go_wp2_with fail
      refine (Bytes.zz15 _ _ _ hs ht).mono ?_; rintro e w' ⟨rfl, rfl⟩
      go_wp2_with fail
      refine (zzExp_at _ 0 _ (by omega) HX.out).mono ?_; rintro e w' ⟨rfl, rfl⟩
      go_wp2_with (go_at_call 17; refine (Leaf.g1Dig_any _ _).mono ?_; rintro e w' ⟨rfl, rfl⟩)
      all_goals
        go_ret
        exact ⟨rfl, rfl⟩
    · have d3 : decide ((3 : Int) ≤ (s.size : Int)) = false := by simp; omega
      go_enter Try.func6, Try.ntmps6
      go_wp2_with fail
      refine (Bytes.zz15 _ _ _ hs ht).mono ?_; rintro e w' ⟨rfl, rfl⟩
      go_wp2_with fail
      refine (zzExp_at _ 0 _ (by omega) HX.out).mono ?_; rintro e w' ⟨rfl, rfl⟩
      go_wp2_with (go_at_call 17; refine (Leaf.g1Dig_any _ _).mono ?_; rintro e w' ⟨rfl, rfl⟩)
      all_goals
        go_ret
        exact ⟨rfl, rfl⟩
  · have d4 : decide ((2 : Int) ≤ (s.size : Int)) = true := by simp; omega
    rcases h2 with h2 | ⟨h3, h2⟩
    · have d3 : decide ((3 : Int) ≤ (s.size : Int)) = false := by simp; omega
      have H2 := hide h2; clear h2 hS
      go_enter Try.func6, Try.ntmps6
      go_wp2_with fail
      refine (Bytes.zz15 _ _ _ hs ht).mono ?_; rintro e w' ⟨rfl, rfl⟩
      go_wp2_with fail
      refine (zzExp_at _ 0 _ (by omega) HX.out).mono ?_; rintro e w' ⟨rfl, rfl⟩
      go_wp2_with (go_at_call 17; refine (Leaf.g1Dig_any _ _).mono ?_; rintro e w' ⟨rfl, rfl⟩)
      all_goals
        go_ret
        exact ⟨rfl, rfl⟩
    · have d3 : decide ((3 : Int) ≤ (s.size : Int)) = true := by simp; omega
      rcases hS with hS | ⟨hS, hS2⟩
      all_goals
        go_enter Try.func6, Try.ntmps6
        go_wp2_with fail
        refine (Bytes.zz15 _ _ _ hs ht).mono ?_; rintro e w' ⟨rfl, rfl⟩
        go_wp2_with fail
        refine (zzExp_at _ 0 _ (by omega) HX.out).mono ?_; rintro e w' ⟨rfl, rfl⟩
        go_wp2_with (go_at_call 17; refine (Leaf.g1Dig_any _ _).mono ?_; rintro e w' ⟨rfl, rfl⟩)
        all_goals
          go_ret
          exact ⟨rfl, rfl⟩
end Go.Proofs.Qxb6001684a.Exp
