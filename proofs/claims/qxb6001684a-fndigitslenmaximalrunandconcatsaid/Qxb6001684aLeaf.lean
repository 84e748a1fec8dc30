import Derived.Test.Qxb6001684aRows
import Derived.Test.Qxb6001684aPlain
import Derived.WalkKit
import Derived.ProofKit
import Derived.WalkSpells
namespace Go.Proofs.Qxb6001684a.Leaf
open Go.ChangeShapes Go.WideShapes Go.ChangeAt Go.RowKit
set_option linter.unusedVariables false
set_option linter.unusedSimpArgs false

theorem hide {p : Prop} (h : p) : Hid p := h
theorem ret_int {k : IntKind} {a b : Int} (h : a = b) : Ending.returned (.int k a) = .returned (.int k b) := by rw [h]

theorem ret_bool {a b : Bool} (h : a = b) : Ending.returned (.bool a) = .returned (.bool b) := by rw [h]

/-! ### tests of one byte -/
set_option maxHeartbeats 400000 in
theorem isDigit_any (c : UInt8) (w : World) :
    Calls Try.prog 36 #[.int .u8 (c.toNat : Int)] w fun e w' => e = .returned (.bool (Plain.dig c)) ∧ w' = w := by
  unfold Plain.dig
  generalize (c.toNat : Int) = c
  by_cases h1 : 48 ≤ c
  · by_cases h2 : c ≤ 57
    all_goals
      go_enter Try.func36, Try.ntmps36
      go_wp2
      go_ret
      exact ⟨by simp [h1, h2], rfl⟩
  · go_enter Try.func36, Try.ntmps36
    go_wp2
    go_ret
    exact ⟨by simp; omega, rfl⟩


set_option maxHeartbeats 400000 in
theorem idS_any (c : UInt8) (w : World) :
    Calls Try.prog 40 #[.int .u8 (c.toNat : Int)] w fun e w' => e = .returned (.bool (Plain.idS c)) ∧ w' = w := by
  go_enter Try.func40, Try.ntmps40
  go_wp2
  all_goals
    go_ret
    refine ⟨ret_bool ?_, rfl⟩
    unfold Plain.idS
    rw [Bool.eq_iff_iff]
    simp <;> omega
set_option maxHeartbeats 400000 in
theorem idn_any (c : UInt8) (w : World) :
    Calls Try.prog 37 #[.int .u8 (c.toNat : Int)] w fun e w' => e = .returned (.bool (Plain.idn c)) ∧ w' = w := by
  unfold Plain.idn
  cases h : Plain.idS c
  all_goals
    go_enter Try.func37, Try.ntmps37
    go_wp2_with (first | (go_at_call 40; refine (idS_any _ _).mono ?_; rintro e w' ⟨rfl, rfl⟩) | (go_at_call 36; refine (isDigit_any _ _).mono ?_; rintro e w' ⟨rfl, rfl⟩))
    go_ret
    refine ⟨ret_bool ?_, rfl⟩
    simp
set_option maxHeartbeats 400000 in
theorem zzIdn_any (c : UInt8) (w : World) :
    Calls Try.prog 24 #[.int .u8 (c.toNat : Int)] w fun e w' => e = .returned (.bool (Plain.idn c)) ∧ w' = w := by
  go_enter Try.func24, Try.ntmps24
  go_wp2
  all_goals
    go_ret
    refine ⟨ret_bool ?_, rfl⟩
    unfold Plain.idn Plain.idS Plain.dig
    rw [Bool.eq_iff_iff]
    simp <;> omega
set_option maxHeartbeats 400000 in
theorem zzDig_any (c : UInt8) (w : World) :
    Calls Try.prog 20 #[.int .u8 (c.toNat : Int)] w fun e w' => e = .returned (.bool (Plain.dig c)) ∧ w' = w := by
  go_enter Try.func20, Try.ntmps20
  go_wp2
  all_goals
    go_ret
    refine ⟨ret_bool ?_, rfl⟩
    unfold Plain.dig
    rw [Bool.eq_iff_iff]
    simp <;> omega
set_option maxHeartbeats 400000 in
theorem g1Dig_any (c : UInt8) (w : World) :
    Calls Try.prog 17 #[.int .u8 (c.toNat : Int)] w fun e w' => e = .returned (.bool (Plain.dig c)) ∧ w' = w := by
  go_enter Try.func17, Try.ntmps17
  go_wp2
  all_goals
    go_ret
    refine ⟨ret_bool ?_, rfl⟩
    unfold Plain.dig
    rw [Bool.eq_iff_iff]
    simp <;> omega

/-! ### digitsLen, identLen -/
set_option maxHeartbeats 400000 in
theorem digitsLen_any (s : ByteArray) (w : World) (hs : s.size ≤ maxLen) :
    Calls Try.prog 30 #[.string s] w fun e w' => e = .returned (.int .i64 (Plain.runLen Plain.dig s.data.toList : Nat)) ∧ w' = w := by
  unfold maxLen at hs
  go_enter Try.func30, Try.ntmps30
  go_wp2
  go_loop [3] (fun i => ∃ k : Nat, k ≤ s.size ∧ i = .int .i64 k ∧ Hid (Plain.runLen Plain.dig s.data.toList = k + Plain.runLen Plain.dig (s.data.toList.drop k))) (fun i => s.size - (intOf i).toNat)
  case atStart => exact ⟨0, Nat.zero_le _, rfl, hide (by simp)⟩
  case round =>
    obtain ⟨k, hk, rfl, HR⟩ := hrel
    by_cases hlt : k < s.size
    · have HD := hide (Plain.drop_cons s k hlt)
      cases hd : Plain.dig s[k]
      · go_wp2_with (go_at_call 36; refine (isDigit_any _ _).mono ?_; rintro e w' ⟨rfl, rfl⟩)
        go_ret
        exact ⟨ret_int (by rw [HR.out, HD.out, Plain.runLen_no _ hd]; omega), rfl⟩
      · go_wp2_with (go_at_call 36; refine (isDigit_any _ _).mono ?_; rintro e w' ⟨rfl, rfl⟩)
        go_round
        case rel => exact ⟨k + 1, by omega, by go_num, hide (by rw [HR.out, HD.out, Plain.runLen_yes _ hd]; omega)⟩
        case measure => simp [intOf]; omega
    · have HD := hide (Plain.drop_end s k (by omega))
      go_wp2
      go_ret
      exact ⟨ret_int (by rw [HR.out, HD.out, Plain.runLen_nil]; omega), rfl⟩
set_option maxHeartbeats 400000 in
theorem identLen_any (s : ByteArray) (w : World) (hs : s.size ≤ maxLen) :
    Calls Try.prog 32 #[.string s] w fun e w' => e = .returned (.int .i64 (Plain.runLen Plain.idn s.data.toList : Nat)) ∧ w' = w := by
  unfold maxLen at hs
  go_enter Try.func32, Try.ntmps32
  go_wp2
  go_loop [3] (fun i => ∃ k : Nat, k ≤ s.size ∧ i = .int .i64 k ∧ Hid (Plain.runLen Plain.idn s.data.toList = k + Plain.runLen Plain.idn (s.data.toList.drop k))) (fun i => s.size - (intOf i).toNat)
  case atStart => exact ⟨0, Nat.zero_le _, rfl, hide (by simp)⟩
  case round =>
    obtain ⟨k, hk, rfl, HR⟩ := hrel
    by_cases hlt : k < s.size
    · have HD := hide (Plain.drop_cons s k hlt)
      cases hd : Plain.idn s[k]
      · go_wp2_with (go_at_call 37; refine (idn_any _ _).mono ?_; rintro e w' ⟨rfl, rfl⟩)
        go_ret
        exact ⟨ret_int (by rw [HR.out, HD.out, Plain.runLen_no _ hd]; omega), rfl⟩
      · go_wp2_with (go_at_call 37; refine (idn_any _ _).mono ?_; rintro e w' ⟨rfl, rfl⟩)
        go_round
        case rel => exact ⟨k + 1, by omega, by go_num, hide (by rw [HR.out, HD.out, Plain.runLen_yes _ hd]; omega)⟩
        case measure => simp [intOf]; omega
    · have HD := hide (Plain.drop_end s k (by omega))
      go_wp2
      go_ret
      exact ⟨ret_int (by rw [HR.out, HD.out, Plain.runLen_nil]; omega), rfl⟩

/-! ### decimalOnly, zzHasByte -/
set_option maxHeartbeats 400000 in
theorem decimalOnly_any (s : ByteArray) (w : World) (hs : s.size ≤ maxLen) :
    Calls Try.prog 31 #[.string s] w fun e w' => e = .returned (.bool (Plain.allDot s.data.toList)) ∧ w' = w := by
  unfold maxLen at hs
  go_enter Try.func31, Try.ntmps31
  go_wp2
  go_loop [3] (fun i => ∃ k : Nat, k ≤ s.size ∧ i = .int .i64 k ∧ Hid (Plain.allDot s.data.toList = Plain.allDot (s.data.toList.drop k))) (fun i => s.size - (intOf i).toNat)
  case atStart => exact ⟨0, Nat.zero_le _, rfl, hide (by simp)⟩
  case round =>
    obtain ⟨k, hk, rfl, HR⟩ := hrel
    by_cases hlt : k < s.size
    · have HD := hide (Plain.drop_cons s k hlt)
      cases hd : Plain.dig s[k]
      · by_cases h46 : (s[k].toNat : Int) = 46
        · have hd2 := hide (show Plain.dot s[k] = true by simp [Plain.dot, h46])
          have hb : (((s[k].toNat : Int)) != 46) = false := by simp [h46]
          have H46 := hide h46; clear h46
          go_wp2_with (go_at_call 36; refine (isDigit_any _ _).mono ?_; rintro e w' ⟨rfl, rfl⟩)
          go_round
          case rel => exact ⟨k + 1, by omega, by go_num, hide (by rw [HR.out, HD.out, Plain.allDot_cons, hd2.out]; rfl)⟩
          case measure => simp [intOf]; omega
        · have hd2 := hide (show Plain.dot s[k] = false by simp [Plain.dot, hd, h46])
          have hb : (((s[k].toNat : Int)) != 46) = true := by simp [h46]
          have H46 := hide h46; clear h46
          go_wp2_with (go_at_call 36; refine (isDigit_any _ _).mono ?_; rintro e w' ⟨rfl, rfl⟩)
          go_ret
          exact ⟨ret_bool (by rw [HR.out, HD.out, Plain.allDot_cons, hd2.out]; rfl), rfl⟩
      · have hd2 := hide (show Plain.dot s[k] = true by simp [Plain.dot, hd])
        go_wp2_with (go_at_call 36; refine (isDigit_any _ _).mono ?_; rintro e w' ⟨rfl, rfl⟩)
        go_round
        case rel => exact ⟨k + 1, by omega, by go_num, hide (by rw [HR.out, HD.out, Plain.allDot_cons, hd2.out]; rfl)⟩
        case measure => simp [intOf]; omega
    · have HD := hide (Plain.drop_end s k (by omega))
      go_wp2
      go_ret
      exact ⟨ret_bool (by rw [HR.out, HD.out]; rfl), rfl⟩
set_option maxHeartbeats 400000 in
theorem hasByte_any (s : ByteArray) (b : Int) (w : World) (hs : s.size ≤ maxLen) :
    Calls Try.prog 26 #[.string s, .int .u8 b] w fun e w' => e = .returned (.bool (Plain.hasB b s.data.toList)) ∧ w' = w := by
  unfold maxLen at hs
  go_enter Try.func26, Try.ntmps26
  go_wp2
  go_loop [5] (fun i => ∃ k : Nat, k ≤ s.size ∧ i = .int .i64 k ∧ Hid ((Plain.hasB b s.data.toList) = Plain.hasB b (s.data.toList.drop k))) (fun i => s.size - (intOf i).toNat)
  case atStart => exact ⟨0, Nat.zero_le _, rfl, hide (by simp)⟩
  case round =>
    obtain ⟨k, hk, rfl, HR⟩ := hrel
    by_cases hlt : k < s.size
    · have HD := hide (Plain.drop_cons s k hlt)
      by_cases h46 : (s[k].toNat : Int) = b
      · have hb : (((s[k].toNat : Int)) == b) = true := by simp [h46]
        have H46 := hide h46; clear h46
        go_wp2
        go_ret
        exact ⟨ret_bool (by rw [HR.out, HD.out, Plain.hasB_cons, decide_eq_true H46.out]; rfl), rfl⟩
      · have hb : (((s[k].toNat : Int)) == b) = false := by simp [h46]
        have H46 := hide h46; clear h46
        go_wp2
        go_round
        case rel => exact ⟨k + 1, by omega, by go_num, hide (by rw [HR.out, HD.out, Plain.hasB_cons, decide_eq_false H46.out]; rfl)⟩
        case measure => simp [intOf]; omega
    · have HD := hide (Plain.drop_end s k (by omega))
      go_wp2
      go_ret
      exact ⟨ret_bool (by rw [HR.out, HD.out]; rfl), rfl⟩

/-! ### the thin shims -/
set_option maxHeartbeats 400000 in
theorem zzDigitsLen_any (s : ByteArray) (w : World) (hs : s.size ≤ maxLen) :
    Calls Try.prog 19 #[.string s] w fun e w' => e = .returned (.int .i64 (Plain.runLen Plain.dig s.data.toList : Nat)) ∧ w' = w := by
  go_enter Try.func19, Try.ntmps19
  go_wp2_with (go_at_call 30; refine (digitsLen_any _ _ hs).mono ?_; rintro e w' ⟨rfl, rfl⟩)
  go_ret
  exact ⟨rfl, rfl⟩
set_option maxHeartbeats 400000 in
theorem zzIdentLen_any (s : ByteArray) (w : World) (hs : s.size ≤ maxLen) :
    Calls Try.prog 23 #[.string s] w fun e w' => e = .returned (.int .i64 (Plain.runLen Plain.idn s.data.toList : Nat)) ∧ w' = w := by
  go_enter Try.func23, Try.ntmps23
  go_wp2_with (go_at_call 32; refine (identLen_any _ _ hs).mono ?_; rintro e w' ⟨rfl, rfl⟩)
  go_ret
  exact ⟨rfl, rfl⟩
set_option maxHeartbeats 400000 in
theorem zzDecimalOnly_any (s : ByteArray) (w : World) (hs : s.size ≤ maxLen) :
    Calls Try.prog 21 #[.string s] w fun e w' => e = .returned (.bool (Plain.allDot s.data.toList)) ∧ w' = w := by
  go_enter Try.func21, Try.ntmps21
  go_wp2_with (go_at_call 31; refine (decimalOnly_any _ _ hs).mono ?_; rintro e w' ⟨rfl, rfl⟩)
  go_ret
  exact ⟨rfl, rfl⟩
end Go.Proofs.Qxb6001684a.Leaf
