import Derived.Test.Qxb6001684aQuote
import Derived.Test.Qxb6001684aBytes
namespace Go.Proofs.Qxb6001684a.EndWalk
open Go.ChangeShapes Go.WideShapes Go.ChangeAt Go.RowKit
open Leaf (hide ret_int ret_bool)
set_option linter.unusedVariables false
set_option linter.unusedSimpArgs false

theorem cq_at (s : ByteArray) (q : Int) (n : Nat) (c : Bool) (w : World) (hs : s.size ≤ 4194304) (h : Plain.cq q s.data.toList = (n, c)) :
    Calls Try.prog 11 #[.string s, .int .u8 q] w fun e w' => e = .returned (.tuple #[.int .i64 n, .bool c]) ∧ w' = w := by
  have := Quote.zzCloseQuote_any s q w hs
  rw [h] at this
  exact this

/-- What the second call is handed. -/
theorem second (s t : ByteArray) (q : Int) (n : Nat) (hn : n ≤ s.size) (h1 : Plain.cq q s.data.toList = (n, true)) (ht : ∀ h : 0 < t.size, ¬ (t[0].toNat : Int) = q) :
    Plain.cq q (s.extract 0 n ++ t).data.toList = (n, true) := by
  have hA := Plain.cq_all q s.data.toList.length s.data.toList (Nat.le_refl _)
  rw [h1] at hA
  rw [Plain.app_list, Plain.ext_list]
  simp only [List.drop_zero, Nat.sub_zero]
  refine (hA.2.2 rfl).2.2 _ ?_
  intro d hd
  by_cases h0 : 0 < t.size
  · have := Plain.drop_cons t 0 h0
    rw [List.drop_zero] at this
    rw [this] at hd
    simp at hd
    subst hd
    exact ht h0
  · have := Plain.drop_end t 0 (by omega)
    rw [List.drop_zero] at this
    rw [this] at hd
    simp at hd

/-- The byte that ends a closed text. -/
theorem last (s : ByteArray) (q : Int) (n : Nat) (h1 : Plain.cq q s.data.toList = (n, true)) : 1 ≤ n ∧ ∀ h : n - 1 < s.size, (s[n - 1].toNat : Int) = q := by
  have hA := Plain.cq_all q s.data.toList.length s.data.toList (Nat.le_refl _)
  rw [h1] at hA
  refine ⟨(hA.2.2 rfl).1, fun h => (hA.2.2 rfl).2.1 _ ?_⟩
  rw [List.getElem?_eq_getElem (by simpa using h)]; rfl

set_option maxHeartbeats 1000000 in
theorem walk (s : ByteArray) (q : Int) (t : ByteArray) (hs : s.size ≤ maxLen) (ht : t.size ≤ maxLen) (w : World) :
    Calls Try.prog 4 #[.string s, .int .u8 q, .string t] w fun e w' => e = .returned (.bool true) ∧ w' = w := by
  by_cases h : s.size + t.size ≤ 1048576
  · have hf := Bytes.fits_yes h
    have hA := Plain.cq_all q s.data.toList.length s.data.toList (Nat.le_refl _)
    obtain ⟨⟨n, c⟩, hnc⟩ : ∃ x, Plain.cq q s.data.toList = x := ⟨_, rfl⟩
    rw [hnc, Plain.len_list] at hA
    obtain ⟨hle, hopen, -⟩ := hA
    replace hle : n ≤ s.size := hle
    have HNC := hide hnc
    have hs' : s.size ≤ 1048576 := by omega
    have ht' : t.size ≤ 1048576 := by omega
    have hst : (s.size : Int) + t.size ≤ 1048576 := by omega
    cases c
    · have hn2 : n = s.size := hopen rfl
      have hb : ((n : Int) == s.size) = true := by simp [hn2]
      clear hopen hnc hn2
      go_enter Try.func4, Try.ntmps4
      go_wp2_with fail
      refine (Bytes.zz12 _ _ _ _ hs ht).mono ?_; rintro e w' ⟨rfl, rfl⟩
      go_wp2_with fail
      refine (cq_at _ _ n false _ (by omega) HNC.out).mono ?_; rintro e w' ⟨rfl, rfl⟩
      go_wp2
      go_ret
      exact ⟨rfl, rfl⟩
    · obtain ⟨hn1, hlast⟩ := last s q n hnc
      have hl := hlast (by omega)
      clear hlast hopen hnc
      obtain ⟨m, rfl⟩ : ∃ m, n = m + 1 := ⟨n - 1, by omega⟩
      simp only [Nat.add_sub_cancel] at hl
      have hms : m < s.size := by omega
      have hb : ((s[m].toNat : Int) != q) = false := by simp [hl]
      clear hl
      by_cases ht0 : 0 < t.size
      · by_cases htq : (t[0].toNat : Int) = q
        · have hb2 : ((t[0].toNat : Int) == q) = true := by simp [htq]
          have HTQ := hide htq; clear htq
          go_enter Try.func4, Try.ntmps4
          go_wp2_with fail
          refine (Bytes.zz12 _ _ _ _ hs ht).mono ?_; rintro e w' ⟨rfl, rfl⟩
          go_wp2_with fail
          refine (cq_at _ _ (m + 1) true _ (by omega) HNC.out).mono ?_; rintro e w' ⟨rfl, rfl⟩
          go_wp2
          go_ret
          exact ⟨rfl, rfl⟩
        · have hb2 : ((t[0].toNat : Int) == q) = false := by simp [htq]
          have H2 := hide (second s t q (m + 1) (by omega) HNC.out (fun _ => htq))
          clear htq
          go_enter Try.func4, Try.ntmps4
          go_wp2_with fail
          refine (Bytes.zz12 _ _ _ _ hs ht).mono ?_; rintro e w' ⟨rfl, rfl⟩
          go_wp2_with fail
          refine (cq_at _ _ (m + 1) true _ (by omega) HNC.out).mono ?_; rintro e w' ⟨rfl, rfl⟩
          go_wp2_with fail
          refine (cq_at _ _ (m + 1) true _ (by simp; omega) H2.out).mono ?_; rintro e w' ⟨rfl, rfl⟩
          go_wp2
          go_ret
          exact ⟨by simp, rfl⟩
      · have H2 := hide (second s t q (m + 1) (by omega) HNC.out (fun h => absurd h ht0))
        have ht0' : ¬ (0 : Int) < t.size := by omega
        go_enter Try.func4, Try.ntmps4
        go_wp2_with fail
        refine (Bytes.zz12 _ _ _ _ hs ht).mono ?_; rintro e w' ⟨rfl, rfl⟩
        go_wp2_with fail
        refine (cq_at _ _ (m + 1) true _ (by omega) HNC.out).mono ?_; rintro e w' ⟨rfl, rfl⟩
        go_wp2_with fail
        refine (cq_at _ _ (m + 1) true _ (by simp; omega) H2.out).mono ?_; rintro e w' ⟨rfl, rfl⟩
        go_wp2
        go_ret
        exact ⟨by simp, rfl⟩
  · have hf := Bytes.fits_no h
    go_enter Try.func4, Try.ntmps4
    go_wp2_with fail
    refine (Bytes.zz12 _ _ _ _ hs ht).mono ?_; rintro e w' ⟨rfl, rfl⟩
    go_wp2
    go_ret
    exact ⟨rfl, rfl⟩
end Go.Proofs.Qxb6001684a.EndWalk
