import Derived.Test.Qxb6600192aRows
import Derived.Test.Qxb6600192aKPlain
import Derived.WalkKit
import Derived.ProofKit
import Derived.WalkSpells
import Derived.BigQuiet
import Derived.Lib.Strings
namespace Go.Proofs.Qxb6600192a.Key
open Go.ChangeShapes Go.WideShapes Go.ChangeAt Go.RowKit
set_option linter.unusedVariables false
set_option linter.unusedSimpArgs false

theorem hide {p : Prop} (h : p) : Hid p := h
theorem ret_bool {a b : Bool} (h : a = b) : Ending.returned (.bool a) = .returned (.bool b) := by rw [h]

/-! ### strings.HasPrefix -/
def hasPre (s p : ByteArray) : Bool := Plain.bpre p.data.toList s.data.toList
theorem hasPre_long {s p : ByteArray} (h : ¬ p.size ≤ s.size) : hasPre s p = false := by
  rw [hasPre, Plain.bpre_take, Plain.len_list, Plain.len_list]
  simp; omega
theorem hasPre_eq {s p : ByteArray} (h : p.size ≤ s.size) : hasPre s p = ((s.extract 0 p.size).toList == p.toList) := by
  rw [hasPre, Plain.bpre_take, Lib.extract_toList, Lib.toList_data, Bool.eq_iff_iff]
  simp [h]
set_option maxHeartbeats 400000 in
theorem pre29 (s p : ByteArray) (w : World) (hs : s.size ≤ maxLen) (hp : p.size ≤ maxLen) :
    Calls Try.prog 29 #[.string s, .string p] w fun e w' => e = .returned (.bool (hasPre s p)) ∧ w' = w := by
  unfold maxLen at hs hp
  by_cases h : p.size ≤ s.size
  · have HE := hide (hasPre_eq h)
    have d : decide (p.size ≤ s.size) = true := decide_eq_true h
    go_enter Try.func29, Try.ntmps29
    go_wp2
    go_ret
    exact ⟨ret_bool (by rw [HE.out]), rfl⟩
  · have HE := hide (hasPre_long h)
    have d : decide (p.size ≤ s.size) = false := decide_eq_false h
    go_enter Try.func29, Try.ntmps29
    go_wp2
    go_ret
    exact ⟨ret_bool (by rw [HE.out]), rfl⟩
set_option maxHeartbeats 400000 in
theorem pre27 (s p : ByteArray) (w : World) (hs : s.size ≤ maxLen) (hp : p.size ≤ maxLen) :
    Calls Try.prog 27 #[.string s, .string p] w fun e w' => e = .returned (.bool (hasPre s p)) ∧ w' = w := by
  go_enter Try.func27, Try.ntmps27
  go_wp2_with (go_at_call 29; refine (pre29 _ _ _ hs hp).mono ?_; rintro e w' ⟨rfl, rfl⟩)
  go_ret
  exact ⟨rfl, rfl⟩

/-! ### strings.CutSuffix at a star -/
def star (s : ByteArray) : Bool := (s.extract (s.size - 1) s.size).toList == [42]
set_option maxHeartbeats 400000 in
theorem suf31 (s : ByteArray) (w : World) (hs : s.size ≤ maxLen) (h : 0 < s.size) :
    Calls Try.prog 31 #[.string s, .string ⟨#[42]⟩] w fun e w' => e = .returned (.bool (star s)) ∧ w' = w := by
  unfold maxLen at hs
  have d : decide ((1 : Int) ≤ (s.size : Int)) = true := decide_eq_true (by omega)
  go_enter Try.func31, Try.ntmps31
  go_wp2
  go_ret
  exact ⟨rfl, rfl⟩
theorem star_empty {s : ByteArray} (h : ¬ 0 < s.size) : star s = false := by
  have : s.size = 0 := by omega
  rw [star, Lib.extract_toList, this]
  rfl
theorem star_last {s : ByteArray} (h : 0 < s.size) : star s = ((s[s.size - 1].toNat : Int) == 42) := by
  have hd := Plain.drop_cons s (s.size - 1) (by omega)
  have he := Plain.drop_end s (s.size - 1 + 1) (by omega)
  rw [star, Lib.extract_toList, hd, he, show s.size - (s.size - 1) = 1 by omega]
  rw [Bool.eq_iff_iff]
  simp only [List.take_succ_cons, List.take_zero, beq_iff_eq, List.cons.injEq, and_true]
  constructor
  · intro h; rw [h]; rfl
  · intro h; exact UInt8.toNat_inj.1 (by show s[s.size - 1].toNat = 42; omega)
set_option maxHeartbeats 400000 in
theorem suf_any (s : ByteArray) (w : World) (hs : s.size ≤ maxLen) :
    Calls Try.prog 31 #[.string s, .string ⟨#[42]⟩] w fun e w' => e = .returned (.bool (star s)) ∧ w' = w := by
  by_cases h : 0 < s.size
  · exact suf31 s w hs h
  · have HE := hide (star_empty h)
    have d : decide ((1 : Int) ≤ (s.size : Int)) = false := decide_eq_false (by omega)
    go_enter Try.func31, Try.ntmps31
    go_wp2
    go_ret
    exact ⟨ret_bool (by rw [HE.out]), rfl⟩
set_option maxHeartbeats 400000 in
theorem cut30_yes (s : ByteArray) (w : World) (hs : s.size ≤ maxLen) (h : star s = true) :
    Calls Try.prog 30 #[.string s, .string ⟨#[42]⟩] w fun e w' => e = .returned (.tuple #[.string (s.extract 0 (s.size - 1)), .bool true]) ∧ w' = w := by
  have h0 : 0 < s.size := by
    by_cases h0 : 0 < s.size
    · exact h0
    · rw [star_empty h0] at h; cases h
  have hs' := hs
  unfold maxLen at hs
  go_enter Try.func30, Try.ntmps30
  go_wp2_with (go_at_call 31; refine (suf_any _ _ hs').mono ?_; rintro e w' ⟨rfl, rfl⟩)
  go_ret2
  exact ⟨rfl, rfl⟩
set_option maxHeartbeats 400000 in
theorem cut30_no (s : ByteArray) (w : World) (hs : s.size ≤ maxLen) (h : star s = false) :
    Calls Try.prog 30 #[.string s, .string ⟨#[42]⟩] w fun e w' => e = .returned (.tuple #[.string s, .bool false]) ∧ w' = w := by
  go_enter Try.func30, Try.ntmps30
  go_wp2_with (go_at_call 31; refine (suf_any _ _ hs).mono ?_; rintro e w' ⟨rfl, rfl⟩)
  go_ret2
  exact ⟨rfl, rfl⟩
set_option maxHeartbeats 400000 in
theorem cut_yes (s : ByteArray) (w : World) (hs : s.size ≤ maxLen) (h : star s = true) :
    Calls Try.prog 28 #[.string s, .string ⟨#[42]⟩] w fun e w' => e = .returned (.tuple #[.string (s.extract 0 (s.size - 1)), .bool true]) ∧ w' = w := by
  go_enter Try.func28, Try.ntmps28
  go_wp2_with (go_at_call 30; refine (cut30_yes _ _ hs h).mono ?_; rintro e w' ⟨rfl, rfl⟩)
  go_ret2
  exact ⟨rfl, rfl⟩
set_option maxHeartbeats 400000 in
theorem cut_no (s : ByteArray) (w : World) (hs : s.size ≤ maxLen) (h : star s = false) :
    Calls Try.prog 28 #[.string s, .string ⟨#[42]⟩] w fun e w' => e = .returned (.tuple #[.string s, .bool false]) ∧ w' = w := by
  go_enter Try.func28, Try.ntmps28
  go_wp2_with (go_at_call 30; refine (cut30_no _ _ hs h).mono ?_; rintro e w' ⟨rfl, rfl⟩)
  go_ret2
  exact ⟨rfl, rfl⟩

/-! ### zzBytePrefix -/
theorem bpre_cons_eq {a b : UInt8} (x y : List UInt8) (h : (b.toNat : Int) = a.toNat) : Plain.bpre (a :: x) (b :: y) = Plain.bpre x y := by
  have : a = b := UInt8.toNat_inj.1 (by omega)
  simp [Plain.bpre, this]
theorem bpre_cons_ne {a b : UInt8} (x y : List UInt8) (h : ¬ (b.toNat : Int) = a.toNat) : Plain.bpre (a :: x) (b :: y) = false := by
  have : ¬ a = b := fun e => h (by rw [e])
  simp [Plain.bpre, this]
set_option maxHeartbeats 1000000 in
theorem bytePrefix_any (s p : ByteArray) (w : World) (hs : s.size ≤ maxLen) (hp : p.size ≤ maxLen) :
    Calls Try.prog 19 #[.string s, .string p] w fun e w' => e = .returned (.bool (hasPre s p)) ∧ ∃ q, w' = w.drewN q := by
  unfold maxLen at hs hp
  by_cases h : p.size ≤ s.size
  · have d : decide (s.size < p.size) = false := decide_eq_false (by omega)
    go_enter Try.func19, Try.ntmps19
    go_wp2
    go_loopw [5] (fun i wr => ∃ k : Nat, k ≤ p.size ∧ i = .int .i64 k ∧ (∃ q, wr = w.drewN q) ∧ Hid (hasPre s p = Plain.bpre (p.data.toList.drop k) (s.data.toList.drop k))) (fun i _ => p.size - (intOf i).toNat)
    case atStart => exact ⟨0, Nat.zero_le _, rfl, ⟨0, rfl⟩, hide (by simp [hasPre])⟩
    case round =>
      obtain ⟨k, hk, rfl, ⟨q, rfl⟩, HR⟩ := hrel
      by_cases hlt : k < p.size
      · have hks : k < s.size := by omega
        have hi1 : (k : Int) < (p.size : Int) := by omega
        have hi2 : (k : Int) < (s.size : Int) := by omega
        have HD1 := hide (Plain.drop_cons p k hlt)
        have HD2 := hide (Plain.drop_cons s k hks)
        by_cases he : (s[k].toNat : Int) = p[k].toNat
        · have hb : ((s[k].toNat : Int) != (p[k].toNat : Int)) = false := by simp [he]
          have HE := hide he; clear he
          go_wp2
          go_quiet (fail)
          go_wp2
          go_roundw
          case rel => exact ⟨k + 1, by omega, by go_num, ⟨_, rfl⟩, hide (by rw [HR.out, HD1.out, HD2.out, bpre_cons_eq _ _ HE.out])⟩
          case measure => simp [intOf]; omega
        · have hb : ((s[k].toNat : Int) != (p[k].toNat : Int)) = true := by simp [he]
          have HE := hide he; clear he
          go_wp2
          go_quiet (fail)
          go_wp2
          go_ret
          exact ⟨ret_bool (by rw [HR.out, HD1.out, HD2.out, bpre_cons_ne _ _ HE.out]), q + nq, World.drewN_drewN _ _ _⟩
      · have HD1 := hide (Plain.drop_end p k (by omega))
        go_wp2
        go_ret
        exact ⟨ret_bool (by rw [HR.out, HD1.out]; rfl), _, rfl⟩
  · have HE := hide (hasPre_long h)
    have d : decide (s.size < p.size) = true := decide_eq_true (by omega)
    go_enter Try.func19, Try.ntmps19
    go_wp2
    go_ret
    exact ⟨ret_bool (by rw [HE.out]), 0, rfl⟩
end Go.Proofs.Qxb6600192a.Key
