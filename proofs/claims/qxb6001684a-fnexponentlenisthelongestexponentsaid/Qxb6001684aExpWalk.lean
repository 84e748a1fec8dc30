import Derived.Test.Qxb6001684aExpPlain
import Derived.Test.Qxb6001684aBytes
namespace Go.Proofs.Qxb6001684a.Exp
open Go.ChangeShapes Go.WideShapes Go.ChangeAt Go.RowKit
open Leaf (hide ret_int ret_bool)
set_option linter.unusedVariables false
set_option linter.unusedSimpArgs false

theorem ext_to_end (s : ByteArray) (k : Nat) : (s.extract k s.size).data.toList = s.data.toList.drop k := by
  rw [Plain.ext_list, List.take_of_length_le]
  simp

theorem digs_from (s : ByteArray) (k n : Nat) (w : World) (hs : s.size ≤ maxLen) (h : Plain.runLen Plain.dig (s.data.toList.drop k) = n) :
    Calls Try.prog 30 #[.string (s.extract k s.size)] w fun e w' => e = .returned (.int .i64 n) ∧ w' = w := by
  have := Leaf.digitsLen_any (s.extract k s.size) w (by simp; omega)
  rw [ext_to_end, h] at this
  exact this

set_option maxHeartbeats 1000000 in
/-- exponentLen behind an 'e' or 'E': the sign is there, or not. -/
theorem exp_e (s : ByteArray) (w : World) (hs : s.size ≤ 4194304) (h1 : 1 < s.size) (he : Plain.isE s[0] = true) :
    Calls Try.prog 29 #[.string s] w fun e w' => e = .returned (.int .i64 (Plain.expLen s.data.toList : Nat)) ∧ w' = w := by
  have h0 : 0 < s.size := by omega
  have hm : s.size ≤ maxLen := by unfold maxLen; omega
  have hE : ((s[0].toNat : Int) != 101) = false ∨ ((s[0].toNat : Int) != 101) = true ∧ ((s[0].toNat : Int) != 69) = false := by
    simp [Plain.isE] at he ⊢
    omega
  by_cases hS : Plain.isS s[1] = true
  · have hx := hide (Plain.expLen_sign s h1 he hS)
    have hS2 : ((s[1].toNat : Int) == 43) = true ∨ ((s[1].toNat : Int) == 43) = false ∧ ((s[1].toNat : Int) == 45) = true := by
      simp [Plain.isS] at hS ⊢
      omega
    clear he hS
    generalize Plain.expLen s.data.toList = r at *
    obtain ⟨n, hn⟩ : ∃ n, Plain.runLen Plain.dig (s.data.toList.drop 2) = n := ⟨_, rfl⟩
    have hle := Plain.runLen_le Plain.dig (s.data.toList.drop 2)
    rw [hn, List.length_drop, Plain.len_list] at hle
    have HN := hide hn; clear hn
    by_cases hn0 : 0 < n
    · have hr := hide (hx.out.trans (by rw [HN.out, Plain.orNo, if_pos hn0] : _ = 2 + n))
      clear hx
      rcases hE with hE | ⟨hE, hE2⟩ <;> rcases hS2 with hS | ⟨hS, hS2⟩
      all_goals
        go_enter Try.func29, Try.ntmps29
        go_wp2_with fail
        refine (digs_from s 2 n _ hm HN.out).mono ?_; rintro e w' ⟨rfl, rfl⟩
        go_wp2
        go_ret
        exact ⟨ret_int (by rw [hr.out]; simp), rfl⟩
    · have hr := hide (hx.out.trans (by rw [HN.out, Plain.orNo, if_neg hn0] : _ = 0))
      obtain rfl : n = 0 := by omega
      clear hx hn0 hle
      rcases hE with hE | ⟨hE, hE2⟩ <;> rcases hS2 with hS | ⟨hS, hS2⟩
      all_goals
        go_enter Try.func29, Try.ntmps29
        go_wp2_with fail
        refine (digs_from s 2 0 _ hm HN.out).mono ?_; rintro e w' ⟨rfl, rfl⟩
        go_wp2
        go_ret
        exact ⟨ret_int (by rw [hr.out]; rfl), rfl⟩
  · have hS' : Plain.isS s[1] = false := by simpa using hS
    have hx := hide (Plain.expLen_bare s h1 he hS')
    have hS1 : ((s[1].toNat : Int) == 43) = false := by simp [Plain.isS] at hS' ⊢; omega
    have hS2 : ((s[1].toNat : Int) == 45) = false := by simp [Plain.isS] at hS' ⊢; omega
    clear he hS hS'
    generalize Plain.expLen s.data.toList = r at *
    obtain ⟨n, hn⟩ : ∃ n, Plain.runLen Plain.dig (s.data.toList.drop 1) = n := ⟨_, rfl⟩
    have hle := Plain.runLen_le Plain.dig (s.data.toList.drop 1)
    rw [hn, List.length_drop, Plain.len_list] at hle
    have HN := hide hn; clear hn
    by_cases hn0 : 0 < n
    · have hr := hide (hx.out.trans (by rw [HN.out, Plain.orNo, if_pos hn0] : _ = 1 + n))
      clear hx
      rcases hE with hE | ⟨hE, hE2⟩
      all_goals
        go_enter Try.func29, Try.ntmps29
        go_wp2_with fail
        refine (digs_from s 1 n _ hm HN.out).mono ?_; rintro e w' ⟨rfl, rfl⟩
        go_wp2
        go_ret
        exact ⟨ret_int (by rw [hr.out]; simp), rfl⟩
    · have hr := hide (hx.out.trans (by rw [HN.out, Plain.orNo, if_neg hn0] : _ = 0))
      obtain rfl : n = 0 := by omega
      clear hx hn0 hle
      rcases hE with hE | ⟨hE, hE2⟩
      all_goals
        go_enter Try.func29, Try.ntmps29
        go_wp2_with fail
        refine (digs_from s 1 0 _ hm HN.out).mono ?_; rintro e w' ⟨rfl, rfl⟩
        go_wp2
        go_ret
        exact ⟨ret_int (by rw [hr.out]; rfl), rfl⟩

set_option maxHeartbeats 400000 in
theorem exp_any (s : ByteArray) (w : World) (hs : s.size ≤ 4194304) :
    Calls Try.prog 29 #[.string s] w fun e w' => e = .returned (.int .i64 (Plain.expLen s.data.toList : Nat)) ∧ w' = w := by
  by_cases h1 : 1 < s.size
  · have h0 : 0 < s.size := by omega
    by_cases he : Plain.isE s[0] = true
    · exact exp_e s w hs h1 he
    · have he' : Plain.isE s[0] = false := by simpa using he
      have hx := hide (Plain.expLen_no s h1 he')
      have hE1 : ((s[0].toNat : Int) != 101) = true := by simp [Plain.isE] at he' ⊢; omega
      have hE2 : ((s[0].toNat : Int) != 69) = true := by simp [Plain.isE] at he' ⊢; omega
      clear he he'
      generalize Plain.expLen s.data.toList = r at *
      go_enter Try.func29, Try.ntmps29
      go_wp2
      go_ret
      exact ⟨ret_int (by rw [hx.out]; rfl), rfl⟩
  · have hx := hide (Plain.expLen_short s.data.toList (by rw [Plain.len_list]; omega))
    have hd : decide ((s.size : Int) < 2) = true := by simp; omega
    generalize Plain.expLen s.data.toList = r at *
    go_enter Try.func29, Try.ntmps29
    go_wp2
    go_ret
    exact ⟨ret_int (by rw [hx.out]; rfl), rfl⟩
set_option maxHeartbeats 400000 in
theorem zzExp_any (s : ByteArray) (w : World) (hs : s.size ≤ 4194304) :
    Calls Try.prog 16 #[.string s] w fun e w' => e = .returned (.int .i64 (Plain.expLen s.data.toList : Nat)) ∧ w' = w := by
  go_enter Try.func16, Try.ntmps16
  go_wp2_with (go_at_call 29; refine (exp_any _ _ hs).mono ?_; rintro e w' ⟨rfl, rfl⟩)
  go_ret
  exact ⟨rfl, rfl⟩
theorem zzExp_at (s : ByteArray) (n : Nat) (w : World) (hs : s.size ≤ 4194304) (h : Plain.expLen s.data.toList = n) :
    Calls Try.prog 16 #[.string s] w fun e w' => e = .returned (.int .i64 n) ∧ w' = w := by
  have := zzExp_any s w hs
  rw [h] at this
  exact this
end Go.Proofs.Qxb6001684a.Exp
