import Derived.Test.Qxb6001684aExpNo
import Derived.Test.Qxb6001684aExpYes2ap
import Derived.Test.Qxb6001684aExpYes2am
import Derived.Test.Qxb6001684aExpYes2bp
import Derived.Test.Qxb6001684aExpYes2bm
import Derived.Test.Qxb6001684aExpYes1a
import Derived.Test.Qxb6001684aExpYes1b
namespace Go.Proofs.Qxb6001684a.Exp
open Go.ChangeShapes Go.WideShapes Go.ChangeAt Go.RowKit
open Leaf (hide ret_int ret_bool)
set_option linter.unusedVariables false
set_option linter.unusedSimpArgs false

theorem e_cases {c : UInt8} (h : Plain.isE c = true) : ((c.toNat : Int) == 101) = true ∨ ((c.toNat : Int) == 101) = false ∧ ((c.toNat : Int) == 69) = true := by
  simp [Plain.isE] at h ⊢
  omega
theorem s_cases {c : UInt8} (h : Plain.isS c = true) : ((c.toNat : Int) == 43) = true ∨ ((c.toNat : Int) == 43) = false ∧ ((c.toNat : Int) == 45) = true := by
  simp [Plain.isS] at h ⊢
  omega
theorem s_no {c : UInt8} (h : Plain.isS c = false) : ((c.toNat : Int) == 43) = false ∧ ((c.toNat : Int) == 45) = false := by
  simp [Plain.isS] at h ⊢
  omega
theorem s_dig {c : UInt8} (h : Plain.isS c = true) : Plain.dig c = false := by
  cases hd : Plain.dig c
  · rfl
  · rw [Plain.dig_not_sign hd] at h; cases h

theorem main (s t : ByteArray) (hs : s.size ≤ maxLen) (ht : t.size ≤ maxLen) (hst : s.size + t.size ≤ 1048576) (hs2 : s.size ≤ 524288) (ht2 : t.size ≤ 524288) (w : World) :
    Calls Try.prog 6 #[.string s, .string t] w fun e w' => e = .returned (.bool true) ∧ w' = w := by
  by_cases h1 : 1 < s.size
  · have h0 : 0 < s.size := by omega
    cases he : Plain.isE s[0]
    · exact law_no s t hs ht hst hs2 ht2 w (Plain.expLen_no s h1 he) (.inr (.inl ⟨h1, he⟩))
    · cases hS : Plain.isS s[1]
      · cases hd : Plain.dig s[1]
        · refine law_no s t hs ht hst hs2 ht2 w ?_ (.inr (.inr (.inl ⟨h1, hd, hS⟩)))
          rw [Plain.expLen_bare s h1 he hS, Plain.drop_cons s 1 h1, Plain.runLen_no _ hd]; rfl
        · obtain ⟨f1, f2, f3, f4⟩ := Plain.exp_facts s 1 h1 hd
          have hx : Plain.expLen s.data.toList = 1 + Plain.runLen Plain.dig (s.data.toList.drop 1) := by rw [Plain.expLen_bare s h1 he hS, Plain.orNo, if_pos f1]
          have hag := Plain.exp_again_bare s t h1 he hd
          obtain ⟨g1, g2⟩ := s_no hS
          rcases e_cases he with e1 | ⟨e1, e2⟩
          · by_cases h2 : 2 < s.size
            · exact law_yes1al s t hs ht hst hs2 ht2 w h1 e1 g1 g2 hd h2 _ hx (by omega) f2 f3 f4 hag
            · exact law_yes1as s t hs ht hst hs2 ht2 w h1 e1 g1 g2 hd h2 _ hx (by omega) f2 f3 f4 hag
          · by_cases h2 : 2 < s.size
            · exact law_yes1bl s t hs ht hst hs2 ht2 w h1 e1 e2 g1 g2 hd h2 _ hx (by omega) f2 f3 f4 hag
            · exact law_yes1bs s t hs ht hst hs2 ht2 w h1 e1 e2 g1 g2 hd h2 _ hx (by omega) f2 f3 f4 hag
      · have hd1 := s_dig hS
        by_cases h2 : 2 < s.size
        · cases hd : Plain.dig s[2]
          · refine law_no s t hs ht hst hs2 ht2 w ?_ (.inr (.inr (.inr ⟨h1, hd1, s_cases hS, .inr ⟨h2, hd⟩⟩)))
            rw [Plain.expLen_sign s h1 he hS, Plain.drop_cons s 2 h2, Plain.runLen_no _ hd]; rfl
          · obtain ⟨f1, f2, f3, f4⟩ := Plain.exp_facts s 2 h2 hd
            have hx : Plain.expLen s.data.toList = 2 + Plain.runLen Plain.dig (s.data.toList.drop 2) := by rw [Plain.expLen_sign s h1 he hS, Plain.orNo, if_pos f1]
            have hag := Plain.exp_again_sign s t h1 he hS f1
            rcases e_cases he with e1 | ⟨e1, e2⟩ <;> rcases s_cases hS with g1 | ⟨g1, g2⟩
            · exact law_yes2ap s t hs ht hst hs2 ht2 w h1 e1 g1 h2 hd1 hd _ hx (by omega) f2 f3 f4 hag
            · exact law_yes2am s t hs ht hst hs2 ht2 w h1 e1 g1 g2 h2 hd1 hd _ hx (by omega) f2 f3 f4 hag
            · exact law_yes2bp s t hs ht hst hs2 ht2 w h1 e1 e2 g1 h2 hd1 hd _ hx (by omega) f2 f3 f4 hag
            · exact law_yes2bm s t hs ht hst hs2 ht2 w h1 e1 e2 g1 g2 h2 hd1 hd _ hx (by omega) f2 f3 f4 hag
        · refine law_no s t hs ht hst hs2 ht2 w ?_ (.inr (.inr (.inr ⟨h1, hd1, s_cases hS, .inl (by omega)⟩)))
          rw [Plain.expLen_sign s h1 he hS, Plain.drop_end s 2 (by omega)]; rfl
  · exact law_no s t hs ht hst hs2 ht2 w (Plain.expLen_short _ (by rw [Plain.len_list]; omega)) (.inl (by omega))

set_option maxHeartbeats 1000000 in
theorem walk (s t : ByteArray) (hs : s.size ≤ maxLen) (ht : t.size ≤ maxLen) (w : World) :
    Calls Try.prog 6 #[.string s, .string t] w fun e w' => e = .returned (.bool true) ∧ w' = w := by
  by_cases h : s.size + t.size ≤ 1048576
  · by_cases hs2 : s.size ≤ 524288
    · by_cases ht2 : t.size ≤ 524288
      · exact main s t hs ht h hs2 ht2 w
      · have hf := Bytes.fits_yes h
        have d1 : decide ((524288 : Int) < (s.size : Int)) = false := by simp; omega
        have d2 : decide ((524288 : Int) < (t.size : Int)) = true := by simp; omega
        go_enter Try.func6, Try.ntmps6
        go_wp2_with fail
        refine (Bytes.zz15 _ _ _ hs ht).mono ?_; rintro e w' ⟨rfl, rfl⟩
        go_wp2
        go_ret
        exact ⟨rfl, rfl⟩
    · have hf := Bytes.fits_yes h
      have d1 : decide ((524288 : Int) < (s.size : Int)) = true := by simp; omega
      go_enter Try.func6, Try.ntmps6
      go_wp2_with fail
      refine (Bytes.zz15 _ _ _ hs ht).mono ?_; rintro e w' ⟨rfl, rfl⟩
      go_wp2
      go_ret
      exact ⟨rfl, rfl⟩
  · have hf := Bytes.fits_no h
    go_enter Try.func6, Try.ntmps6
    go_wp2_with fail
    refine (Bytes.zz15 _ _ _ hs ht).mono ?_; rintro e w' ⟨rfl, rfl⟩
    go_wp2
    go_ret
    exact ⟨rfl, rfl⟩
end Go.Proofs.Qxb6001684a.Exp
