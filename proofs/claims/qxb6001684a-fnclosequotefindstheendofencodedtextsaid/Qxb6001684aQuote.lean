import Derived.Test.Qxb6001684aLeaf
namespace Go.Proofs.Qxb6001684a.Quote
open Go.ChangeShapes Go.WideShapes Go.ChangeAt Go.RowKit
open Leaf (hide ret_int ret_bool)
set_option linter.unusedVariables false
set_option linter.unusedSimpArgs false

theorem ret_pair {a b : Int} {p q : Bool} (h : a = b) (h2 : p = q) : Ending.returned (.tuple #[.int .i64 a, .bool p]) = .returned (.tuple #[.int .i64 b, .bool q]) := by rw [h, h2]

theorem slash_step (s : ByteArray) (q : Int) (k : Nat) (h : k < s.size) (h1 : (Plain.cq q s.data.toList).1 = min k s.size + (Plain.cq q (s.data.toList.drop k)).1)
    (h2 : (Plain.cq q s.data.toList).2 = (Plain.cq q (s.data.toList.drop k)).2) (hq : ¬ (s[k].toNat : Int) = q) (hb : (s[k].toNat : Int) = 92 ∧ q ≠ 96) :
    (Plain.cq q s.data.toList).1 = min (k + 2) s.size + (Plain.cq q (s.data.toList.drop (k + 2))).1 ∧ (Plain.cq q s.data.toList).2 = (Plain.cq q (s.data.toList.drop (k + 2))).2 := by
  rw [h1, h2, Plain.drop_cons s k h]
  by_cases h3 : k + 1 < s.size
  · rw [Plain.drop_cons s (k + 1) h3, Plain.cq_slash _ hq hb]
    exact ⟨by show min k s.size + ((Plain.cq q (s.data.toList.drop (k + 2))).1 + 2) = _; omega, rfl⟩
  · rw [Plain.drop_end s (k + 1) (by omega), Plain.drop_end s (k + 2) (by omega), Plain.cq_slash_end hq, Plain.cq_nil]
    exact ⟨by show min k s.size + 1 = min (k + 2) s.size + 0; omega, rfl⟩

/-! ### closeQuote -/
set_option maxHeartbeats 1000000 in
theorem closeQuote_any (s : ByteArray) (q : Int) (w : World) (hs : s.size ≤ 4194304) :
    Calls Try.prog 27 #[.string s, .int .u8 q] w fun e w' => e = .returned (.tuple #[.int .i64 ((Plain.cq q s.data.toList).1 : Nat), .bool (Plain.cq q s.data.toList).2]) ∧ w' = w := by
  go_enter Try.func27, Try.ntmps27
  go_wp2
  go_loop [6] (fun i => ∃ k : Nat, k ≤ s.size + 1 ∧ i = .int .i64 k ∧ Hid ((Plain.cq q s.data.toList).1 = min k s.size + (Plain.cq q (s.data.toList.drop k)).1 ∧ (Plain.cq q s.data.toList).2 = (Plain.cq q (s.data.toList.drop k)).2)) (fun i => s.size + 1 - (intOf i).toNat)
  case atStart => exact ⟨0, Nat.zero_le _, rfl, hide (by simp)⟩
  case round =>
    obtain ⟨k, hk, rfl, HR⟩ := hrel
    by_cases hlt : k < s.size
    · have HD := hide (Plain.drop_cons s k hlt)
      by_cases hq : (s[k].toNat : Int) = q
      · have hb : ((s[k].toNat : Int) == q) = true := by simp [hq]
        have HQ := hide hq; clear hq
        by_cases hl2 : k + 1 < s.size
        · have hl2' : (k : Int) + 1 < s.size := by omega
          have HD2 := hide (Plain.drop_cons s (k + 1) hl2)
          by_cases hq2 : (s[k + 1].toNat : Int) = q
          · have hb2 : ((s[k + 1].toNat : Int) == q) = true := by simp [hq2]
            have HQ2 := hide hq2; clear hq2
            go_wp2
            go_round
            case rel => exact ⟨k + 2, by omega, by go_num, hide (by rw [HR.out.1, HR.out.2, HD.out, HD2.out, Plain.cq_twice _ HQ.out HQ2.out]; exact ⟨by show min k s.size + ((Plain.cq q (s.data.toList.drop (k + 2))).1 + 2) = _; omega, rfl⟩)⟩
            case measure => simp [intOf]; omega
          · have hb2 : ((s[k + 1].toNat : Int) == q) = false := by simp [hq2]
            have HQ2 := hide hq2; clear hq2
            go_wp2
            go_ret2
            exact ⟨ret_pair (by rw [HR.out.1, HD.out, HD2.out, Plain.cq_close _ HQ.out (by simpa using HQ2.out)]; show (k : Int) + 1 = ((min k s.size + 1 : Nat) : Int); omega) (by rw [HR.out.2, HD.out, HD2.out, Plain.cq_close _ HQ.out (by simpa using HQ2.out)]), rfl⟩
        · have hl2' : ¬ (k : Int) + 1 < s.size := by omega
          go_wp2
          go_ret2
          exact ⟨ret_pair (by rw [HR.out.1, HD.out, Plain.drop_end s (k + 1) (by omega), Plain.cq_close _ HQ.out (by simp)]; show (k : Int) + 1 = ((min k s.size + 1 : Nat) : Int); omega) (by rw [HR.out.2, HD.out, Plain.drop_end s (k + 1) (by omega), Plain.cq_close _ HQ.out (by simp)]), rfl⟩
      · have hb : ((s[k].toNat : Int) == q) = false := by simp [hq]
        have HQ := hide hq; clear hq
        by_cases h92 : (s[k].toNat : Int) = 92
        · have hb2 : ((s[k].toNat : Int) == 92) = true := by simp [h92]
          have H92 := hide h92; clear h92
          by_cases h96 : q = 96
          · have hb3 : (q != 96) = false := by simp [h96]
            have H96 := hide h96; clear h96
            go_wp2
            go_round
            case rel => exact ⟨k + 1, by omega, by go_num, hide (by rw [HR.out.1, HR.out.2, HD.out, Plain.cq_plain _ HQ.out (fun h => h.2 H96.out)]; exact ⟨by show min k s.size + (_ + 1) = _; omega, rfl⟩)⟩
            case measure => simp [intOf]; omega
          · have hb3 : (q != 96) = true := by simp [h96]
            have H96 := hide h96; clear h96
            go_wp2
            go_round
            case rel => exact ⟨k + 2, by omega, by go_num, hide (slash_step s q k hlt HR.out.1 HR.out.2 HQ.out ⟨H92.out, H96.out⟩)⟩
            case measure => simp [intOf]; omega
        · have hb2 : ((s[k].toNat : Int) == 92) = false := by simp [h92]
          have H92 := hide h92; clear h92
          go_wp2
          go_round
          case rel => exact ⟨k + 1, by omega, by go_num, hide (by rw [HR.out.1, HR.out.2, HD.out, Plain.cq_plain _ HQ.out (fun h => H92.out h.1)]; exact ⟨by show min k s.size + (_ + 1) = _; omega, rfl⟩)⟩
          case measure => simp [intOf]; omega
    · have HD := hide (Plain.drop_end s k (by omega))
      go_wp2
      go_ret2
      exact ⟨ret_pair (by rw [HR.out.1, HD.out, Plain.cq_nil]; show (s.size : Int) = ((min k s.size + 0 : Nat) : Int); omega) (by rw [HR.out.2, HD.out, Plain.cq_nil]), rfl⟩
set_option maxHeartbeats 400000 in
theorem zzCloseQuote_any (s : ByteArray) (q : Int) (w : World) (hs : s.size ≤ 4194304) :
    Calls Try.prog 11 #[.string s, .int .u8 q] w fun e w' => e = .returned (.tuple #[.int .i64 ((Plain.cq q s.data.toList).1 : Nat), .bool (Plain.cq q s.data.toList).2]) ∧ w' = w := by
  go_enter Try.func11, Try.ntmps11
  go_wp2_with (go_at_call 27; refine (closeQuote_any _ _ _ hs).mono ?_; rintro e w' ⟨rfl, rfl⟩)
  go_ret2
  exact ⟨rfl, rfl⟩
end Go.Proofs.Qxb6001684a.Quote
