import Derived.Test.Qxb6001684aRunParts
namespace Go.Proofs.Qxb6001684a.Run
open Go.ChangeShapes Go.WideShapes Go.ChangeAt Go.RowKit
open Leaf (hide ret_int ret_bool)
set_option linter.unusedVariables false
set_option linter.unusedSimpArgs false

theorem dec_facts (a b : ByteArray) (n : Nat) (da db hd : Bool) (h1 : Plain.allDot a.data.toList = da) (h2 : Plain.allDot b.data.toList = db) (h3 : Plain.hasB 46 a.data.toList = hd)
    (h4 : Plain.runLen Plain.dig a.data.toList = n) :
    Plain.allDot (a ++ b).data.toList = (da && db) ∧ (n = a.size → da = true) ∧ (da = true → hd = false → n = a.size) := by
  subst h1 h2 h3 h4
  refine ⟨?_, fun h => Plain.allDot_of_run (by rw [h, Plain.len_list]), fun h1 h2 => by rw [Plain.run_of_allDot h1 h2, Plain.len_list]⟩
  rw [Plain.app_list, Plain.allDot_app]

set_option maxHeartbeats 4000000 in
theorem main9 (a b : ByteArray) (hs : a.size ≤ maxLen) (ht : b.size ≤ maxLen) (hst : a.size + b.size ≤ 1048576) (w : World) :
    Calls Try.prog 9 #[.string a, .string b] w fun e w' => e = .returned (.bool true) ∧ w' = w := by
  have hf := Bytes.fits_yes hst
  obtain ⟨n, hn⟩ : ∃ n, Plain.runLen Plain.dig a.data.toList = n := ⟨_, rfl⟩
  obtain ⟨da, hda⟩ : ∃ x, Plain.allDot a.data.toList = x := ⟨_, rfl⟩
  obtain ⟨db, hdb⟩ : ∃ x, Plain.allDot b.data.toList = x := ⟨_, rfl⟩
  obtain ⟨hd, hhd⟩ : ∃ x, Plain.hasB 46 a.data.toList = x := ⟨_, rfl⟩
  obtain ⟨happ, hall, hno⟩ := dec_facts a b n da db hd hda hdb hhd hn
  have hle := Plain.runLen_le Plain.dig a.data.toList
  rw [hn, Plain.len_list] at hle
  have HN := hide hn; have HA := hide hda; have HB := hide hdb; have HH := hide hhd; have HAPP := hide happ
  clear hn hda hdb hhd happ
  have HE := hide (show Plain.allDot (ByteArray.mk #[]).data.toList = true from rfl)
  have d1 : decide ((1048576 : Int) < (a.size : Int)) = false := by simp; omega
  have d2 : decide ((1048576 : Int) < (b.size : Int)) = false := by simp; omega
  have d3 : decide ((1048576 : Int) < (a.size : Int) + (b.size : Int)) = false := decide_eq_false (by omega)
  have hs1 : a.size ≤ 1048576 := by omega
  have ht1 : b.size ≤ 1048576 := by omega
  have hx3 : (a ++ b).size ≤ maxLen := by unfold maxLen; simp; omega
  have HX3 := hide hx3
  have HX0 := hide (show (ByteArray.mk #[]).size ≤ maxLen from Nat.zero_le _)
  clear hx3
  cases da
  · have hne : ¬ n = a.size := fun h => by cases hall h
    have b1 : ((n : Int) == (a.size : Int)) = false := beq_eq_false_iff_ne.2 (by omega)
    clear hall hno hne
    go_enter Try.func9, Try.ntmps9
    go_wp2_with fail
    refine (Bytes.zz25 _ _ _ hs ht).mono ?_; rintro e w' ⟨rfl, rfl⟩
    go_wp2_with fail
    refine (dots_at _ _ _ hs HA.out).mono ?_; rintro e w' ⟨rfl, rfl⟩
    go_wp2_with fail
    refine (dots_at _ _ _ ht HB.out).mono ?_; rintro e w' ⟨rfl, rfl⟩
    go_wp2_with fail
    refine (dots_at _ _ _ HX3.out HAPP.out).mono ?_; rintro e w' ⟨rfl, rfl⟩
    go_wp2_with fail
    refine (digs_at _ n _ hs HN.out).mono ?_; rintro e w' ⟨rfl, rfl⟩
    go_wp2_with fail
    refine (dots_at _ true _ HX0.out HE.out).mono ?_; rintro e w' ⟨rfl, rfl⟩
    go_wp2
    go_ret
    exact ⟨rfl, rfl⟩
  · by_cases hne : n = a.size
    · have b1 : ((n : Int) == (a.size : Int)) = true := beq_iff_eq.2 (by omega)
      have b2 : ((n : Int) != (a.size : Int)) = false := by rw [bne, b1]; rfl
      clear hall hno hne
      cases db <;> cases hd
      · go_enter Try.func9, Try.ntmps9
        go_wp2_with fail
        refine (Bytes.zz25 _ _ _ hs ht).mono ?_; rintro e w' ⟨rfl, rfl⟩
        go_wp2_with fail
        refine (dots_at _ _ _ hs HA.out).mono ?_; rintro e w' ⟨rfl, rfl⟩
        go_wp2_with fail
        refine (dots_at _ _ _ ht HB.out).mono ?_; rintro e w' ⟨rfl, rfl⟩
        go_wp2_with fail
        refine (dots_at _ _ _ HX3.out HAPP.out).mono ?_; rintro e w' ⟨rfl, rfl⟩
        go_wp2_with fail
        refine (digs_at _ n _ hs HN.out).mono ?_; rintro e w' ⟨rfl, rfl⟩
        go_wp2_with fail
        refine (has_at _ 46 false _ hs HH.out).mono ?_; rintro e w' ⟨rfl, rfl⟩
        go_wp2_with fail
        refine (digs_at _ n _ hs HN.out).mono ?_; rintro e w' ⟨rfl, rfl⟩
        go_wp2_with fail
        refine (dots_at _ true _ HX0.out HE.out).mono ?_; rintro e w' ⟨rfl, rfl⟩
        go_wp2
        go_ret
        exact ⟨rfl, rfl⟩
      · go_enter Try.func9, Try.ntmps9
        go_wp2_with fail
        refine (Bytes.zz25 _ _ _ hs ht).mono ?_; rintro e w' ⟨rfl, rfl⟩
        go_wp2_with fail
        refine (dots_at _ _ _ hs HA.out).mono ?_; rintro e w' ⟨rfl, rfl⟩
        go_wp2_with fail
        refine (dots_at _ _ _ ht HB.out).mono ?_; rintro e w' ⟨rfl, rfl⟩
        go_wp2_with fail
        refine (dots_at _ _ _ HX3.out HAPP.out).mono ?_; rintro e w' ⟨rfl, rfl⟩
        go_wp2_with fail
        refine (digs_at _ n _ hs HN.out).mono ?_; rintro e w' ⟨rfl, rfl⟩
        go_wp2_with fail
        refine (has_at _ 46 true _ hs HH.out).mono ?_; rintro e w' ⟨rfl, rfl⟩
        go_wp2_with fail
        refine (dots_at _ true _ HX0.out HE.out).mono ?_; rintro e w' ⟨rfl, rfl⟩
        go_wp2
        go_ret
        exact ⟨rfl, rfl⟩
      · go_enter Try.func9, Try.ntmps9
        go_wp2_with fail
        refine (Bytes.zz25 _ _ _ hs ht).mono ?_; rintro e w' ⟨rfl, rfl⟩
        go_wp2_with fail
        refine (dots_at _ _ _ hs HA.out).mono ?_; rintro e w' ⟨rfl, rfl⟩
        go_wp2_with fail
        refine (dots_at _ _ _ ht HB.out).mono ?_; rintro e w' ⟨rfl, rfl⟩
        go_wp2_with fail
        refine (dots_at _ _ _ HX3.out HAPP.out).mono ?_; rintro e w' ⟨rfl, rfl⟩
        go_wp2_with fail
        refine (digs_at _ n _ hs HN.out).mono ?_; rintro e w' ⟨rfl, rfl⟩
        go_wp2_with fail
        refine (has_at _ 46 false _ hs HH.out).mono ?_; rintro e w' ⟨rfl, rfl⟩
        go_wp2_with fail
        refine (digs_at _ n _ hs HN.out).mono ?_; rintro e w' ⟨rfl, rfl⟩
        go_wp2_with fail
        refine (dots_at _ true _ HX0.out HE.out).mono ?_; rintro e w' ⟨rfl, rfl⟩
        go_wp2
        go_ret
        exact ⟨rfl, rfl⟩
      · go_enter Try.func9, Try.ntmps9
        go_wp2_with fail
        refine (Bytes.zz25 _ _ _ hs ht).mono ?_; rintro e w' ⟨rfl, rfl⟩
        go_wp2_with fail
        refine (dots_at _ _ _ hs HA.out).mono ?_; rintro e w' ⟨rfl, rfl⟩
        go_wp2_with fail
        refine (dots_at _ _ _ ht HB.out).mono ?_; rintro e w' ⟨rfl, rfl⟩
        go_wp2_with fail
        refine (dots_at _ _ _ HX3.out HAPP.out).mono ?_; rintro e w' ⟨rfl, rfl⟩
        go_wp2_with fail
        refine (digs_at _ n _ hs HN.out).mono ?_; rintro e w' ⟨rfl, rfl⟩
        go_wp2_with fail
        refine (has_at _ 46 true _ hs HH.out).mono ?_; rintro e w' ⟨rfl, rfl⟩
        go_wp2_with fail
        refine (dots_at _ true _ HX0.out HE.out).mono ?_; rintro e w' ⟨rfl, rfl⟩
        go_wp2
        go_ret
        exact ⟨rfl, rfl⟩
    · have b1 : ((n : Int) == (a.size : Int)) = false := beq_eq_false_iff_ne.2 (by omega)
      cases hd
      · exact absurd (hno rfl rfl) hne
      · clear hall hno hne
        cases db
        all_goals
          go_enter Try.func9, Try.ntmps9
          go_wp2_with fail
          refine (Bytes.zz25 _ _ _ hs ht).mono ?_; rintro e w' ⟨rfl, rfl⟩
          go_wp2_with fail
          refine (dots_at _ _ _ hs HA.out).mono ?_; rintro e w' ⟨rfl, rfl⟩
          go_wp2_with fail
          refine (dots_at _ _ _ ht HB.out).mono ?_; rintro e w' ⟨rfl, rfl⟩
          go_wp2_with fail
          refine (dots_at _ _ _ HX3.out HAPP.out).mono ?_; rintro e w' ⟨rfl, rfl⟩
          go_wp2_with fail
          refine (digs_at _ n _ hs HN.out).mono ?_; rintro e w' ⟨rfl, rfl⟩
          go_wp2_with fail
          refine (has_at _ 46 true _ hs HH.out).mono ?_; rintro e w' ⟨rfl, rfl⟩
          go_wp2_with fail
          refine (dots_at _ true _ HX0.out HE.out).mono ?_; rintro e w' ⟨rfl, rfl⟩
          go_wp2
          go_ret
          exact ⟨rfl, rfl⟩

set_option maxHeartbeats 400000 in
theorem walk9 (s t : ByteArray) (hs : s.size ≤ maxLen) (ht : t.size ≤ maxLen) (w : World) :
    Calls Try.prog 9 #[.string s, .string t] w fun e w' => e = .returned (.bool true) ∧ w' = w := by
  by_cases h : s.size + t.size ≤ 1048576
  · exact main9 s t hs ht h w
  · have hf := Bytes.fits_no h
    go_enter Try.func9, Try.ntmps9
    go_wp2_with fail
    refine (Bytes.zz25 _ _ _ hs ht).mono ?_; rintro e w' ⟨rfl, rfl⟩
    go_wp2
    go_ret
    exact ⟨rfl, rfl⟩
end Go.Proofs.Qxb6001684a.Run
