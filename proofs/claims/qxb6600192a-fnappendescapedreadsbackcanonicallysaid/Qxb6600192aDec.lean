import Derived.Test.Qxb6600192aTok
import Derived.Test.Qxb6600192aEscWalk
namespace Go.Proofs.Qxb6600192a.Esc
open Go.ChangeShapes Go.WideShapes Go.ChangeAt Go.RowKit
set_option linter.unusedVariables false
set_option linter.unusedSimpArgs false

/-- Where the escaped form of byte k lies in the whole. -/
theorem esc_at (s : ByteArray) (k : Nat) (hk : k < s.size) :
    (Plain.escT s k).length + (Plain.esc s[k]).length ≤ (Plain.escL s.data.toList).length ∧
    ∀ i (hi : i < (Plain.esc s[k]).length), (Plain.escL s.data.toList)[(Plain.escT s k).length + i]? = some (Plain.esc s[k])[i] := by
  have e : Plain.escL s.data.toList = Plain.escT s k ++ (Plain.esc s[k] ++ Plain.escL (s.data.toList.drop (k + 1))) := by
    have := Plain.drop_cons s k hk
    rw [Plain.escT, ← Plain.escL, ← this, ← Plain.escL_app, List.take_append_drop]
  rw [e]
  refine ⟨by simp only [List.length_append]; omega, fun i hi => ?_⟩
  rw [List.getElem?_append_right (by omega), Nat.add_sub_cancel_left, List.getElem?_append_left hi, List.getElem?_eq_getElem hi]

set_option maxHeartbeats 400000 in
theorem dec_empty (ao : Option Addr) (cap : Nat) (s : ByteArray) (w : World) (hs : s.size = 0) :
    Calls Try.prog 11 #[.slice ao 0 cap, .string s] w fun e w' => e = .returned (.bool true) ∧ w' = w := by
  have hb : ((0 : Int) == (s.size : Int)) = true := by rw [hs]; rfl
  clear hs
  go_enter Try.func11, Try.ntmps11
  go_wp2
  refine wp_loop_rounds 1 ?_
  rw [rounds_succ]
  go_wp2
  go_ret
  exact ⟨by simp, rfl⟩

set_option maxHeartbeats 1000000 in
theorem dec_any (g o n cap : Nat) (s : ByteArray) (w : World) (hs : s.size ≤ 1048576) (hn : n = (Plain.escL s.data.toList).length)
    (hc : ∀ i (hi : i < (Plain.escL s.data.toList).length), w.cell? ⟨g, o + i, none⟩ = some (.int .u8 ((Plain.escL s.data.toList)[i].toNat : Int))) :
    Calls Try.prog 11 #[.slice (some ⟨g, o, none⟩) n cap, .string s] w fun e w' => e = .returned (.bool true) ∧ w' = w := by
  have hmax : n ≤ 6291456 := by
    have := Plain.escL_len s.data.toList
    rw [Plain.len_list] at this
    omega
  have HN := hide hn; clear hn
  have HC := hide hc; clear hc
  go_enter Try.func11, Try.ntmps11
  go_wp2
  go_loop [5, 6] (fun j i => ∃ k : Nat, k ≤ s.size ∧ i = .int .i64 k ∧ j = .int .i64 (Plain.escT s k).length) (fun _ i => s.size - (intOf i).toNat)
  case atStart => exact ⟨0, Nat.zero_le _, rfl, by rw [Plain.escT_zero]; rfl⟩
  case round =>
    obtain ⟨k, hk, rfl, rfl⟩ := hrel
    by_cases hlt : k < s.size
    · obtain ⟨f1, f2⟩ := esc_at s k hlt
      have hl1 := (Plain.esc_len s[k]).1
      have hl6 := (Plain.esc_len s[k]).2
      rw [← HN.out] at f1
      have hjn : (Plain.escT s k).length < n := by omega
      have HS := hide (Plain.escT_succ s k hlt)
      have HT := hide (tok_any g o n cap (Plain.escT s k).length s[k] w (by omega) f1 (fun i hi => by
        have h2 := f2 i hi
        obtain ⟨h3, h4⟩ := List.getElem?_eq_some_iff.1 h2
        rw [HC.out _ h3, h4]))
      have hge : decide (s.size ≤ k) = false := decide_eq_false (by omega)
      clear f2
      go_wp2_with fail
      refine HT.out.mono ?_; rintro e w' ⟨rfl, rfl⟩
      clear HT
      go_wp2
      go_round
      case rel => exact ⟨k + 1, by omega, by go_num, by rw [HS.out, List.length_append]; go_num⟩
      case measure => simp [intOf]; omega
    · have hjn : (Plain.escT s k).length = n := by rw [HN.out, Plain.escT_all s k (by omega)]
      have hkb : ((k : Int) == (s.size : Int)) = true := beq_iff_eq.2 (by omega)
      have hd : ¬ (Plain.escT s k).length < n := by omega
      clear hjn
      go_wp2
      go_ret
      exact ⟨rfl, rfl⟩
end Go.Proofs.Qxb6600192a.Esc
