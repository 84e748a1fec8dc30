import Derived.Test.Qxb6001684aFindParts
namespace Go.Proofs.Qxb6001684a.Find
open Go.ChangeShapes Go.WideShapes Go.ChangeAt Go.RowKit
open Leaf (hide ret_int ret_bool)
set_option linter.unusedVariables false
set_option linter.unusedSimpArgs false

set_option maxHeartbeats 4000000 in
theorem walk39 (s : ByteArray) (sel : Int) (t : ByteArray) (hs : s.size ≤ maxLen) (ht : t.size ≤ maxLen) (hsl : 0 ≤ sel ∧ sel ≤ 255)
    (hst : s.size + t.size ≤ 1048576) (hs2 : s.size ≤ 262144) (ht2 : t.size ≤ 262144) (h1 : ((sel % 3) == 1) = false) (h2 : ((sel % 3) == 2) = false) (w : World) :
    Calls Try.prog 3 #[.string s, .int .u8 sel, .string t] w fun e w' => e = .returned (.bool true) ∧ Below w.heap.size w w' := by
  have hf := Bytes.fits_yes hst
  obtain ⟨i0, hi, hz0, hz1, hz2⟩ := info_parts info5
  have d1 : decide ((262144 : Int) < (s.size : Int)) = false := by simp; omega
  have d2 : decide ((262144 : Int) < (t.size : Int)) = false := by simp; omega
  go_enter Try.func3, Try.ntmps3
  go_wp2_with fail
  refine (Bytes.zz10 _ _ _ _ hs ht).mono ?_; rintro e w' ⟨rfl, rfl⟩
  go_wp2_with (at_make; refine wpList_make_own _ rfl _ _ 23 rfl w'.heap.size 5 i0 (.int .u8 0) 1 Try.underlying23 hi hz0 hz1 _ _ _ (2 * s.size + 1) rfl rfl (by omega) (by rw [hz2]; omega) (by unfold maxLen; omega) (Nat.le_refl _) ?_; intro w0 hown0 hgrow0)
  have hb0 : Below w'.heap.size w' w0 := (Below.refl _ _).grown hgrow0 (Nat.le_refl _) (by intro k hk; cases hk)
  clear hgrow0
  go_loopw [8, 9] (fun b i wr => ∃ k : Nat, k ≤ s.size ∧ i = .int .i64 k ∧ b = .slice (some ⟨w'.heap.size, 0, none⟩) (encT 39 s k).length (2 * s.size + 1) ∧ wr.ownsRow w'.heap.size 5 1 (.slice (some ⟨w'.heap.size, 0, none⟩) (encT 39 s k).length (2 * s.size + 1)) (encT 39 s k).length (bc (encT 39 s k)) ∧ Below w'.heap.size w' wr)
    (fun _ i _ => s.size - (intOf i).toNat)
  case atStart => exact ⟨0, Nat.zero_le _, rfl, by rw [encT_zero]; rfl, by rw [encT_zero]; exact hown0, hb0⟩
  case round =>
    obtain ⟨k, hk, rfl, rfl, hown, hbel⟩ := hrel
    have hlen := encT_len 39 s k
    have hsz := hbel.size
    clear hown0 hb0
    by_cases hlt : k < s.size
    · have HS := hide (encT_succ 39 s k hlt)
      by_cases hq : Plain.twice 39 s[k] = true
      · by_cases hq1 : (s[k].toNat : Int) = 39
        · have b1 : ((s[k].toNat : Int) == 39) = true := by simp [hq1]
          have HQ := hide hq; clear hq hq1
          go_wp2_with (first | (at_builtin; refine wpList_append_fits _ rfl (.tmp 49) (.tmp 51) 23 rfl w'.heap.size 5 i0 1 Try.underlying23 hi hz1 w'.heap.size (encT 39 s k).length (2 * s.size + 1) (bc (encT 39 s k)) rfl (hown.alloc _) ⟨wr.heap.size, 0, none⟩ 1 1 [.int .u8 (s[k].toNat : Int)] rfl rfl (cell_one_new _ _ _) (ints_oneCell .u8 [(s[k].toNat : Int)]) (by omega) ?_; intro w1 hown1 hgrow1) | (at_builtin; refine wpList_append_fits _ rfl (.tmp 64) (.tmp 66) 23 rfl w'.heap.size 5 i0 1 Try.underlying23 hi hz1 w'.heap.size ((encT 39 s k).length + 1) (2 * s.size + 1) (bc (encT 39 s k) ++ [.int .u8 (s[k].toNat : Int)]) rfl (hown1.alloc _) ⟨w1.heap.size, 0, none⟩ 1 1 [.int .u8 (s[k].toNat : Int)] rfl rfl (cell_one_new _ _ _) (ints_oneCell .u8 [(s[k].toNat : Int)]) (by omega) ?_; intro w2 hown2 hgrow2))
          have R := two_step (x := []) HS.out HQ.out hgrow1 hown2 hgrow2 hbel rfl
          clear hown1 hgrow1 hown2 hgrow2 hown hbel
          go_roundw
          case rel => exact ⟨k + 1, by omega, by go_num, R.1, R.2.1, R.2.2⟩
          case measure => simp [intOf]; omega
        · have hq2 : (s[k].toNat : Int) = 92 := by simpa [Plain.twice, hq1] using hq
          have b1 : ((s[k].toNat : Int) == 39) = false := by simp [hq1]
          have b2 : ((s[k].toNat : Int) == 92) = true := by simp [hq2]
          have HQ := hide hq; clear hq hq1 hq2
          go_wp2_with (first | (at_builtin; refine wpList_append_fits _ rfl (.tmp 49) (.tmp 51) 23 rfl w'.heap.size 5 i0 1 Try.underlying23 hi hz1 w'.heap.size (encT 39 s k).length (2 * s.size + 1) (bc (encT 39 s k)) rfl (hown.alloc _) ⟨wr.heap.size, 0, none⟩ 1 1 [.int .u8 (s[k].toNat : Int)] rfl rfl (cell_one_new _ _ _) (ints_oneCell .u8 [(s[k].toNat : Int)]) (by omega) ?_; intro w1 hown1 hgrow1) | (at_builtin; refine wpList_append_fits _ rfl (.tmp 64) (.tmp 66) 23 rfl w'.heap.size 5 i0 1 Try.underlying23 hi hz1 w'.heap.size ((encT 39 s k).length + 1) (2 * s.size + 1) (bc (encT 39 s k) ++ [.int .u8 (s[k].toNat : Int)]) rfl (hown1.alloc _) ⟨w1.heap.size, 0, none⟩ 1 1 [.int .u8 (s[k].toNat : Int)] rfl rfl (cell_one_new _ _ _) (ints_oneCell .u8 [(s[k].toNat : Int)]) (by omega) ?_; intro w2 hown2 hgrow2))
          have R := two_step (x := []) HS.out HQ.out hgrow1 hown2 hgrow2 hbel rfl
          clear hown1 hgrow1 hown2 hgrow2 hown hbel
          go_roundw
          case rel => exact ⟨k + 1, by omega, by go_num, R.1, R.2.1, R.2.2⟩
          case measure => simp [intOf]; omega
      · have hq' : ¬ (s[k].toNat : Int) = 39 ∧ ¬ (s[k].toNat : Int) = 92 := by simpa [Plain.twice] using hq
        have b1 : ((s[k].toNat : Int) == 39) = false := by simp [hq'.1]
        have b2 : ((s[k].toNat : Int) == 92) = false := by simp [hq'.2]
        have HQ := hide hq; clear hq hq'
        go_wp2_with (at_builtin; refine wpList_append_fits _ rfl (.tmp 49) (.tmp 51) 23 rfl w'.heap.size 5 i0 1 Try.underlying23 hi hz1 w'.heap.size (encT 39 s k).length (2 * s.size + 1) (bc (encT 39 s k)) rfl (hown.alloc _) ⟨wr.heap.size, 0, none⟩ 1 1 [.int .u8 (s[k].toNat : Int)] rfl rfl (cell_one_new _ _ _) (ints_oneCell .u8 [(s[k].toNat : Int)]) (by omega) ?_; intro w1 hown1 hgrow1)
        have R := one_step (g := 0) HS.out HQ.out hown1 hgrow1 hbel rfl
        clear hown1 hgrow1 hown hbel
        go_roundw
        case rel => exact ⟨k + 1, by omega, by go_num, R.1, R.2.1, R.2.2⟩
        case measure => simp [intOf]; omega
    · have hE : encT 39 s k = Plain.enc 39 s.data.toList := encT_all 39 s k (by omega)
      have HC1 := hide (first_call 39 s)
      have hl2 : (encT 39 s k).length ≤ 2 * s.size := by omega
      clear hlen
      rw [hE] at hown hl2 ⊢
      clear hE
      have hcv := conv_own hown
      by_cases htc : 0 < t.size ∧ ∃ h : 0 < t.size, (t[0].toNat : Int) = 39
      · obtain ⟨ht0, _, htq⟩ := htc
        have hb2 : ((t[0].toNat : Int) == 39) = true := by simp [htq]
        clear htq
        generalize Plain.enc 39 s.data.toList = E at *
        go_wp2_with fail
        refine (cq_at E 39 E.length false _ (by omega) HC1.out).mono ?_; rintro e w2 ⟨rfl, rfl⟩
        go_wp2
        go_ret
        exact ⟨rfl, hbel⟩
      · have HC2 := hide (second_call 39 39 rfl s t (fun h e => htc ⟨h, h, e⟩))
        have hbB : Value.ownBlock (.slice (some ⟨w'.heap.size, 0, none⟩) (Plain.enc 39 s.data.toList).length (2 * s.size + 1)) = some w'.heap.size := rfl
        generalize Plain.enc 39 s.data.toList = E at *
        by_cases ht0 : 0 < t.size
        · have hb2 : ((t[0].toNat : Int) == 39) = false := by simp; exact fun e => htc ⟨ht0, ht0, e⟩
          clear htc
          go_wp2_with fail
          refine (cq_at E 39 E.length false _ (by omega) HC1.out).mono ?_; rintro e w2 ⟨rfl, rfl⟩
          go_wp2_with (first | (at_make; refine wpList_make_own _ rfl _ _ 23 rfl w'.heap.size 5 i0 (.int .u8 0) 1 Try.underlying23 hi hz0 hz1 _ _ _ (E.length + 1 + t.size) rfl rfl (by omega) (by rw [hz2]; omega) (by unfold maxLen; omega) hsz ?_; intro wA hownA hgrowA; have hownB := hown.kept hgrowA (.inr (by simp [Value.ownBlock]))) | (at_builtin; refine wpList_append_fits _ rfl (.tmp 98) (.tmp 99) 23 rfl w'.heap.size 5 i0 1 Try.underlying23 hi hz1 w2.heap.size 0 (E.length + 1 + t.size) [] rfl hownA ⟨w'.heap.size, 0, none⟩ E.length (2 * s.size + 1) (bc E) rfl (by rw [bc_len]; omega) (hownB.cells (g := w'.heap.size) rfl) (bc_one E) (by omega) ?_; intro w3 hown3 hgrow3; simp only [Nat.zero_add, List.nil_append] at hown3) | (at_builtin; refine wpList_append_fits _ rfl (.tmp 101) (.tmp 103) 23 rfl w'.heap.size 5 i0 1 Try.underlying23 hi hz1 w2.heap.size E.length (E.length + 1 + t.size) (bc E) rfl (hown3.alloc _) ⟨w3.heap.size, 0, none⟩ 1 1 [.int .u8 39] rfl rfl (cell_one_new _ _ _) (ints_oneCell .u8 [39]) (by omega) ?_; intro w4 hown4 hgrow4) | (at_builtin; refine Lib.wpList_append_own_string _ rfl (.tmp 105) (.tmp 106) 23 9 rfl w'.heap.size 5 i0 Try.underlying23 Try.underlying9 hi hz0 hz1 hz2 (.slice (some ⟨w2.heap.size, 0, none⟩) (E.length + 1) (E.length + 1 + t.size)) (E.length + 1) (bc E ++ [Value.int .u8 39]) rfl hown4 t rfl (by unfold maxLen; omega) (by omega) (tall hsz hgrowA hgrow3 hgrow4) ?_; intro v5 w5 hown5 hgrow5 hnil5; obtain ⟨g5, c5, hv5⟩ := shape hown5 (fun h => by simpa using (hnil5.1 h).1); subst hv5; have hcv2 := conv_at (E ++ 39 :: t.data.toList) (whole_len E 39 t) (whole_cells E 39 t) hown5))
          refine (cq_at (E ++ 39 :: t.data.toList) 39 (E.length + 1) true _ (by rw [← whole_len]; omega) HC2.out).mono ?_; rintro e w6 ⟨rfl, rfl⟩
          have hfin := all_below hbel rfl hgrowA hgrow3 hgrow4 hgrow5 hsz
          clear hown hownA hownB hown3 hown4 hown5 hgrowA hgrow3 hgrow4 hgrow5 hcv hcv2 hnil5 hbel
          go_wp2
          go_ret
          exact ⟨by simp, hfin⟩
        · have ht0' : ¬ (0 : Int) < t.size := by omega
          clear htc
          go_wp2_with fail
          refine (cq_at E 39 E.length false _ (by omega) HC1.out).mono ?_; rintro e w2 ⟨rfl, rfl⟩
          go_wp2_with (first | (at_make; refine wpList_make_own _ rfl _ _ 23 rfl w'.heap.size 5 i0 (.int .u8 0) 1 Try.underlying23 hi hz0 hz1 _ _ _ (E.length + 1 + t.size) rfl rfl (by omega) (by rw [hz2]; omega) (by unfold maxLen; omega) hsz ?_; intro wA hownA hgrowA; have hownB := hown.kept hgrowA (.inr (by simp [Value.ownBlock]))) | (at_builtin; refine wpList_append_fits _ rfl (.tmp 98) (.tmp 99) 23 rfl w'.heap.size 5 i0 1 Try.underlying23 hi hz1 w2.heap.size 0 (E.length + 1 + t.size) [] rfl hownA ⟨w'.heap.size, 0, none⟩ E.length (2 * s.size + 1) (bc E) rfl (by rw [bc_len]; omega) (hownB.cells (g := w'.heap.size) rfl) (bc_one E) (by omega) ?_; intro w3 hown3 hgrow3; simp only [Nat.zero_add, List.nil_append] at hown3) | (at_builtin; refine wpList_append_fits _ rfl (.tmp 101) (.tmp 103) 23 rfl w'.heap.size 5 i0 1 Try.underlying23 hi hz1 w2.heap.size E.length (E.length + 1 + t.size) (bc E) rfl (hown3.alloc _) ⟨w3.heap.size, 0, none⟩ 1 1 [.int .u8 39] rfl rfl (cell_one_new _ _ _) (ints_oneCell .u8 [39]) (by omega) ?_; intro w4 hown4 hgrow4) | (at_builtin; refine Lib.wpList_append_own_string _ rfl (.tmp 105) (.tmp 106) 23 9 rfl w'.heap.size 5 i0 Try.underlying23 Try.underlying9 hi hz0 hz1 hz2 (.slice (some ⟨w2.heap.size, 0, none⟩) (E.length + 1) (E.length + 1 + t.size)) (E.length + 1) (bc E ++ [Value.int .u8 39]) rfl hown4 t rfl (by unfold maxLen; omega) (by omega) (tall hsz hgrowA hgrow3 hgrow4) ?_; intro v5 w5 hown5 hgrow5 hnil5; obtain ⟨g5, c5, hv5⟩ := shape hown5 (fun h => by simpa using (hnil5.1 h).1); subst hv5; have hcv2 := conv_at (E ++ 39 :: t.data.toList) (whole_len E 39 t) (whole_cells E 39 t) hown5))
          refine (cq_at (E ++ 39 :: t.data.toList) 39 (E.length + 1) true _ (by rw [← whole_len]; omega) HC2.out).mono ?_; rintro e w6 ⟨rfl, rfl⟩
          have hfin := all_below hbel rfl hgrowA hgrow3 hgrow4 hgrow5 hsz
          clear hown hownA hownB hown3 hown4 hown5 hgrowA hgrow3 hgrow4 hgrow5 hcv hcv2 hnil5 hbel
          go_wp2
          go_ret
          exact ⟨by simp, hfin⟩
end Go.Proofs.Qxb6001684a.Find
