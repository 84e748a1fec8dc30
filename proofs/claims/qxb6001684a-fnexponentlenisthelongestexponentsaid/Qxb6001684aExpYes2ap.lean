import Derived.Test.Qxb6001684aExpWalk
namespace Go.Proofs.Qxb6001684a.Exp
open Go.ChangeShapes Go.WideShapes Go.ChangeAt Go.RowKit
open Leaf (hide ret_int ret_bool)
set_option linter.unusedVariables false
set_option linter.unusedSimpArgs false

set_option maxHeartbeats 4000000 in
theorem law_yes2ap (s t : ByteArray) (hs : s.size ≤ maxLen) (ht : t.size ≤ maxLen) (hst : s.size + t.size ≤ 1048576) (hs2 : s.size ≤ 524288) (ht2 : t.size ≤ 524288) (w : World)
    (h1 : 1 < s.size) (hE : ((s[0].toNat : Int) == 101) = true) (hS : ((s[1].toNat : Int) == 43) = true) (h2 : 2 < s.size) (hd1 : Plain.dig s[1] = false) (hd2 : Plain.dig s[2] = true)
    (n : Nat) (hx : Plain.expLen s.data.toList = n) (hk : 2 < n) (hn : n ≤ s.size)
    (hall : ∀ i (hi : i < s.size), 2 ≤ i → i < n → Plain.dig s[i] = true) (hstop : ∀ h : n < s.size, Plain.dig s[n] = false)
    (hag : (∀ h : 0 < t.size, Plain.dig t[0] = false) → Plain.expLen (s.extract 0 n ++ t).data.toList = n) :
    Calls Try.prog 6 #[.string s, .string t] w fun e w' => e = .returned (.bool true) ∧ w' = w := by
  have hf := Bytes.fits_yes hst
  have HX := hide hx; clear hx
  have HALL := hide hall; clear hall
  have d1 : decide ((524288 : Int) < (s.size : Int)) = false := by simp; omega
  have d2 : decide ((524288 : Int) < (t.size : Int)) = false := by simp; omega
  have d4 : decide ((2 : Int) ≤ (s.size : Int)) = true := by simp; omega
  have d5 : decide ((n : Int) ≤ 2) = false := by simp; omega
  have d6 : decide (s.size < n) = false := by simp; omega
  have d3 : decide ((3 : Int) ≤ (s.size : Int)) = true := by simp; omega
  go_enter Try.func6, Try.ntmps6
  go_wp2_with fail
  refine (Bytes.zz15 _ _ _ hs ht).mono ?_; rintro e w' ⟨rfl, rfl⟩
  go_wp2_with fail
  refine (zzExp_at _ n _ (by omega) HX.out).mono ?_; rintro e w' ⟨rfl, rfl⟩
  go_wp2_with (go_at_call 17; refine (Leaf.g1Dig_any _ _).mono ?_; rintro e w' ⟨rfl, rfl⟩)
  go_loop [9] (fun i => ∃ j : Nat, 2 ≤ j ∧ j ≤ n ∧ i = .int .i64 j) (fun i => n - (intOf i).toNat)
  case atStart => exact ⟨2, Nat.le_refl _, by omega, rfl⟩
  case round =>
    obtain ⟨j, hj1, hj2, rfl⟩ := hrel
    by_cases hlt : j < n
    · have hjs : j < s.size := by omega
      have hd := HALL.out j hjs hj1 hlt
      go_wp2_with (go_at_call 17; refine (Leaf.g1Dig_any _ _).mono ?_; rintro e w' ⟨rfl, rfl⟩)
      go_round
      case rel => exact ⟨j + 1, by omega, by omega, by go_num⟩
      case measure => simp [intOf]; omega
    · obtain rfl : j = n := by omega
      clear hj2 hlt
      by_cases hns : j < s.size
      · have hst2 := hstop hns
        have d7 : decide (j < s.size) = true := by simp; omega
        clear hstop
        by_cases ht0 : 0 < t.size
        · have d8 : decide ((0 : Int) < (t.size : Int)) = true := by simp; omega
          cases htd : Plain.dig t[0]
          · have HAG := hide (hag (fun _ => htd)); clear hag
            go_wp2_with (go_at_call 17; refine (Leaf.g1Dig_any _ _).mono ?_; rintro e w' ⟨rfl, rfl⟩)
            refine (zzExp_at _ j _ (by simp; omega) HAG.out).mono ?_; rintro e w' ⟨rfl, rfl⟩
            go_wp2
            go_ret
            exact ⟨by simp, rfl⟩
          · clear hag
            go_wp2_with (go_at_call 17; refine (Leaf.g1Dig_any _ _).mono ?_; rintro e w' ⟨rfl, rfl⟩)
            go_ret
            exact ⟨rfl, rfl⟩
        · have d8 : decide ((0 : Int) < (t.size : Int)) = false := decide_eq_false (by omega)
          have HAG := hide (hag (fun h => absurd h ht0)); clear hag
          go_wp2_with (go_at_call 17; refine (Leaf.g1Dig_any _ _).mono ?_; rintro e w' ⟨rfl, rfl⟩)
          refine (zzExp_at _ j _ (by simp; omega) HAG.out).mono ?_; rintro e w' ⟨rfl, rfl⟩
          go_wp2
          go_ret
          exact ⟨by simp, rfl⟩
      · have d7 : decide (j < s.size) = false := by simp; omega
        clear hstop
        by_cases ht0 : 0 < t.size
        · have d8 : decide ((0 : Int) < (t.size : Int)) = true := by simp; omega
          cases htd : Plain.dig t[0]
          · have HAG := hide (hag (fun _ => htd)); clear hag
            go_wp2_with (go_at_call 17; refine (Leaf.g1Dig_any _ _).mono ?_; rintro e w' ⟨rfl, rfl⟩)
            refine (zzExp_at _ j _ (by simp; omega) HAG.out).mono ?_; rintro e w' ⟨rfl, rfl⟩
            go_wp2
            go_ret
            exact ⟨by simp, rfl⟩
          · clear hag
            go_wp2_with (go_at_call 17; refine (Leaf.g1Dig_any _ _).mono ?_; rintro e w' ⟨rfl, rfl⟩)
            go_ret
            exact ⟨rfl, rfl⟩
        · have d8 : decide ((0 : Int) < (t.size : Int)) = false := decide_eq_false (by omega)
          have HAG := hide (hag (fun h => absurd h ht0)); clear hag
          go_wp2_with (go_at_call 17; refine (Leaf.g1Dig_any _ _).mono ?_; rintro e w' ⟨rfl, rfl⟩)
          refine (zzExp_at _ j _ (by simp; omega) HAG.out).mono ?_; rintro e w' ⟨rfl, rfl⟩
          go_wp2
          go_ret
          exact ⟨by simp, rfl⟩
end Go.Proofs.Qxb6001684a.Exp
