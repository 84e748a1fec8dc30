import Derived.Test.Qxb6600192aTrack
namespace Go.Proofs.Qxb6600192a.Esc
open Go.ChangeShapes Go.WideShapes Go.ChangeAt Go.RowKit
set_option linter.unusedVariables false
set_option linter.unusedSimpArgs false

set_option maxHeartbeats 400000 in
theorem hex_lo (z : Int) (h1 : 48 ≤ z) (h2 : z ≤ 57) (w : World) : Calls Try.prog 26 #[.int .u8 z] w fun e w' => e = .returned (.tuple #[.int .u8 (z - 48), .bool true]) ∧ w' = w := by
  go_enter Try.func26, Try.ntmps26
  go_wp2
  go_ret2
  exact ⟨rfl, rfl⟩
set_option maxHeartbeats 400000 in
theorem hex_hi (z : Int) (h1 : 97 ≤ z) (h2 : z ≤ 102) (w : World) : Calls Try.prog 26 #[.int .u8 z] w fun e w' => e = .returned (.tuple #[.int .u8 (z - 97 + 10), .bool true]) ∧ w' = w := by
  have d : decide (z ≤ 57) = false := decide_eq_false (by omega)
  go_enter Try.func26, Try.ntmps26
  go_wp2
  go_ret2
  exact ⟨rfl, rfl⟩
theorem hex_any (d : Nat) (hd : d < 16) (w : World) : Calls Try.prog 26 #[.int .u8 ((Plain.hexd d).toNat : Int)] w fun e w' => e = .returned (.tuple #[.int .u8 (d : Int), .bool true]) ∧ w' = w := by
  by_cases h : d < 10
  · have hz := Plain.hexd_lo h
    have := hex_lo ((Plain.hexd d).toNat : Int) (by omega) (by omega) w
    rw [show ((Plain.hexd d).toNat : Int) - 48 = (d : Int) by omega] at this
    exact this
  · have hz := Plain.hexd_hi h hd
    have := hex_hi ((Plain.hexd d).toNat : Int) (by omega) (by omega) w
    rw [show ((Plain.hexd d).toNat : Int) - 97 + 10 = (d : Int) by omega] at this
    exact this

/-- What zzCanonToken answers. -/
abbrev tokEnd (c : Int) (n : Nat) : Ending := .returned (.tuple #[.int .u8 c, .int .i64 (n : Int), .bool true])

set_option maxHeartbeats 1000000 in
theorem tok_raw (g o n cap j : Nat) (c : UInt8) (w : World) (hn : n ≤ 1099511627776) (hj : j < n) (h : Plain.isRaw c) (c0 : w.cell? ⟨g, o + j, none⟩ = some (.int .u8 (c.toNat : Int))) :
    Calls Try.prog 24 #[.slice (some ⟨g, o, none⟩) n cap, .int .i64 j] w fun e w' => e = tokEnd (c.toNat : Int) 1 ∧ w' = w := by
  obtain ⟨h1, h2, h3, h4⟩ := h
  have b92 : ((c.toNat : Int) != 92) = true := by rw [bne_iff_ne]; omega
  have d32 : decide ((c.toNat : Int) < 32) = false := decide_eq_false (by omega)
  have b127 : ((c.toNat : Int) == 127) = false := beq_eq_false_iff_ne.2 (by omega)
  have b34 : ((c.toNat : Int) == 34) = false := beq_eq_false_iff_ne.2 (by omega)
  clear h1 h2 h3 h4
  go_enter Try.func24, Try.ntmps24
  go_wp2
  go_ret3
  exact ⟨rfl, rfl⟩

set_option maxHeartbeats 1000000 in
theorem tok_34 (g o n cap j : Nat) (w : World) (hn : n ≤ 1099511627776) (hj : j + 2 ≤ n) (c0 : w.cell? ⟨g, o + j, none⟩ = some (.int .u8 92)) (c1 : w.cell? ⟨g, o + (j + 1), none⟩ = some (.int .u8 34)) :
    Calls Try.prog 24 #[.slice (some ⟨g, o, none⟩) n cap, .int .i64 j] w fun e w' => e = tokEnd 34 2 ∧ w' = w := by
  have d : decide ((n : Int) ≤ (j : Int) + 1) = false := decide_eq_false (by omega)
  go_enter Try.func24, Try.ntmps24
  go_wp2
  go_ret3
  exact ⟨rfl, rfl⟩
set_option maxHeartbeats 1000000 in
theorem tok_92 (g o n cap j : Nat) (w : World) (hn : n ≤ 1099511627776) (hj : j + 2 ≤ n) (c0 : w.cell? ⟨g, o + j, none⟩ = some (.int .u8 92)) (c1 : w.cell? ⟨g, o + (j + 1), none⟩ = some (.int .u8 92)) :
    Calls Try.prog 24 #[.slice (some ⟨g, o, none⟩) n cap, .int .i64 j] w fun e w' => e = tokEnd 92 2 ∧ w' = w := by
  have d : decide ((n : Int) ≤ (j : Int) + 1) = false := decide_eq_false (by omega)
  go_enter Try.func24, Try.ntmps24
  go_wp2
  go_ret3
  exact ⟨rfl, rfl⟩
set_option maxHeartbeats 1000000 in
theorem tok_8 (g o n cap j : Nat) (w : World) (hn : n ≤ 1099511627776) (hj : j + 2 ≤ n) (c0 : w.cell? ⟨g, o + j, none⟩ = some (.int .u8 92)) (c1 : w.cell? ⟨g, o + (j + 1), none⟩ = some (.int .u8 98)) :
    Calls Try.prog 24 #[.slice (some ⟨g, o, none⟩) n cap, .int .i64 j] w fun e w' => e = tokEnd 8 2 ∧ w' = w := by
  have d : decide ((n : Int) ≤ (j : Int) + 1) = false := decide_eq_false (by omega)
  go_enter Try.func24, Try.ntmps24
  go_wp2
  go_ret3
  exact ⟨rfl, rfl⟩
set_option maxHeartbeats 1000000 in
theorem tok_9 (g o n cap j : Nat) (w : World) (hn : n ≤ 1099511627776) (hj : j + 2 ≤ n) (c0 : w.cell? ⟨g, o + j, none⟩ = some (.int .u8 92)) (c1 : w.cell? ⟨g, o + (j + 1), none⟩ = some (.int .u8 116)) :
    Calls Try.prog 24 #[.slice (some ⟨g, o, none⟩) n cap, .int .i64 j] w fun e w' => e = tokEnd 9 2 ∧ w' = w := by
  have d : decide ((n : Int) ≤ (j : Int) + 1) = false := decide_eq_false (by omega)
  go_enter Try.func24, Try.ntmps24
  go_wp2
  go_ret3
  exact ⟨rfl, rfl⟩
set_option maxHeartbeats 1000000 in
theorem tok_10 (g o n cap j : Nat) (w : World) (hn : n ≤ 1099511627776) (hj : j + 2 ≤ n) (c0 : w.cell? ⟨g, o + j, none⟩ = some (.int .u8 92)) (c1 : w.cell? ⟨g, o + (j + 1), none⟩ = some (.int .u8 110)) :
    Calls Try.prog 24 #[.slice (some ⟨g, o, none⟩) n cap, .int .i64 j] w fun e w' => e = tokEnd 10 2 ∧ w' = w := by
  have d : decide ((n : Int) ≤ (j : Int) + 1) = false := decide_eq_false (by omega)
  go_enter Try.func24, Try.ntmps24
  go_wp2
  go_ret3
  exact ⟨rfl, rfl⟩
set_option maxHeartbeats 1000000 in
theorem tok_12 (g o n cap j : Nat) (w : World) (hn : n ≤ 1099511627776) (hj : j + 2 ≤ n) (c0 : w.cell? ⟨g, o + j, none⟩ = some (.int .u8 92)) (c1 : w.cell? ⟨g, o + (j + 1), none⟩ = some (.int .u8 102)) :
    Calls Try.prog 24 #[.slice (some ⟨g, o, none⟩) n cap, .int .i64 j] w fun e w' => e = tokEnd 12 2 ∧ w' = w := by
  have d : decide ((n : Int) ≤ (j : Int) + 1) = false := decide_eq_false (by omega)
  go_enter Try.func24, Try.ntmps24
  go_wp2
  go_ret3
  exact ⟨rfl, rfl⟩
set_option maxHeartbeats 1000000 in
theorem tok_13 (g o n cap j : Nat) (w : World) (hn : n ≤ 1099511627776) (hj : j + 2 ≤ n) (c0 : w.cell? ⟨g, o + j, none⟩ = some (.int .u8 92)) (c1 : w.cell? ⟨g, o + (j + 1), none⟩ = some (.int .u8 114)) :
    Calls Try.prog 24 #[.slice (some ⟨g, o, none⟩) n cap, .int .i64 j] w fun e w' => e = tokEnd 13 2 ∧ w' = w := by
  have d : decide ((n : Int) ≤ (j : Int) + 1) = false := decide_eq_false (by omega)
  go_enter Try.func24, Try.ntmps24
  go_wp2
  go_ret3
  exact ⟨rfl, rfl⟩

set_option maxHeartbeats 4000000 in
theorem tok_ctl (g o n cap j d1 d2 : Nat) (w : World) (hn : n ≤ 1099511627776) (hj : j + 6 ≤ n) (h1 : d1 < 16) (h2 : d2 < 16)
    (hv : (d1 * 16 + d2 < 32 ∧ d1 * 16 + d2 ≠ 8 ∧ d1 * 16 + d2 ≠ 9 ∧ d1 * 16 + d2 ≠ 10 ∧ d1 * 16 + d2 ≠ 12 ∧ d1 * 16 + d2 ≠ 13) ∨ d1 * 16 + d2 = 127)
    (c0 : w.cell? ⟨g, o + j, none⟩ = some (.int .u8 92)) (c1 : w.cell? ⟨g, o + (j + 1), none⟩ = some (.int .u8 117)) (c2 : w.cell? ⟨g, o + (j + 2), none⟩ = some (.int .u8 48)) (c3 : w.cell? ⟨g, o + (j + 3), none⟩ = some (.int .u8 48))
    (c4 : w.cell? ⟨g, o + (j + 4), none⟩ = some (.int .u8 ((Plain.hexd d1).toNat : Int))) (c5 : w.cell? ⟨g, o + (j + 5), none⟩ = some (.int .u8 ((Plain.hexd d2).toNat : Int))) :
    Calls Try.prog 24 #[.slice (some ⟨g, o, none⟩) n cap, .int .i64 j] w fun e w' => e = tokEnd ((d1 : Int) * 16 + d2) 6 ∧ w' = w := by
  have e1 : decide ((n : Int) ≤ (j : Int) + 1) = false := decide_eq_false (by omega)
  have e2 : decide ((n : Int) < (j : Int) + 6) = false := decide_eq_false (by omega)
  rcases hv with ⟨v1, v2, v3, v4, v5, v6⟩ | v1
  · have b127 : (((d1 : Int) * 16 + d2) == 127) = false := beq_eq_false_iff_ne.2 (by omega)
    have d32 : decide ((32 : Int) ≤ (d1 : Int) * 16 + d2) = false := decide_eq_false (by omega)
    have b8 : (((d1 : Int) * 16 + d2) == 8) = false := beq_eq_false_iff_ne.2 (by omega)
    have b9 : (((d1 : Int) * 16 + d2) == 9) = false := beq_eq_false_iff_ne.2 (by omega)
    have b10 : (((d1 : Int) * 16 + d2) == 10) = false := beq_eq_false_iff_ne.2 (by omega)
    have b12 : (((d1 : Int) * 16 + d2) == 12) = false := beq_eq_false_iff_ne.2 (by omega)
    have b13 : (((d1 : Int) * 16 + d2) == 13) = false := beq_eq_false_iff_ne.2 (by omega)
    have hd : (d1 : Int) ≤ 1 := by omega
    have hd2 : (d2 : Int) ≤ 15 := by omega
    clear v1 v2 v3 v4 v5 v6
    go_enter Try.func24, Try.ntmps24
    go_wp2_with fail
    refine (hex_any d1 h1 _).mono ?_; rintro e w' ⟨rfl, rfl⟩
    go_wp2_with fail
    refine (hex_any d2 h2 _).mono ?_; rintro e w' ⟨rfl, rfl⟩
    go_wp2
    go_ret3
    exact ⟨rfl, rfl⟩
  · have b127 : (((d1 : Int) * 16 + d2) == 127) = true := beq_iff_eq.2 (by omega)
    have hd : (d1 : Int) ≤ 7 := by omega
    have hd2 : (d2 : Int) ≤ 15 := by omega
    clear v1
    go_enter Try.func24, Try.ntmps24
    go_wp2_with fail
    refine (hex_any d1 h1 _).mono ?_; rintro e w' ⟨rfl, rfl⟩
    go_wp2_with fail
    refine (hex_any d2 h2 _).mono ?_; rintro e w' ⟨rfl, rfl⟩
    go_wp2
    go_ret3
    exact ⟨rfl, rfl⟩

/-- The token at j is the escaped form of c. -/
theorem tok_any (g o n cap j : Nat) (c : UInt8) (w : World) (hn : n ≤ 1099511627776) (hj : j + (Plain.esc c).length ≤ n)
    (hc : ∀ i (hi : i < (Plain.esc c).length), w.cell? ⟨g, o + (j + i), none⟩ = some (.int .u8 ((Plain.esc c)[i].toNat : Int))) :
    Calls Try.prog 24 #[.slice (some ⟨g, o, none⟩) n cap, .int .i64 j] w fun e w' => e = tokEnd (c.toNat : Int) (Plain.esc c).length ∧ w' = w := by
  rcases Plain.ways c with h | h | h | h | h | h | h | h | h
  · have he := Plain.esc_two (.inl h)
    have hl := congrArg List.length he
    simp only [List.length_cons, List.length_nil] at hl
    rw [hl, h]
    refine tok_34 g o n cap j w hn (by omega) ?_ ?_
    · have := hc 0 (by omega); simp only [he] at this; simpa using this
    · have := hc 1 (by omega); simp only [he] at this; simpa [h] using this
  · have he := Plain.esc_two (.inr h)
    have hl := congrArg List.length he
    simp only [List.length_cons, List.length_nil] at hl
    rw [hl, h]
    refine tok_92 g o n cap j w hn (by omega) ?_ ?_
    · have := hc 0 (by omega); simp only [he] at this; simpa using this
    · have := hc 1 (by omega); simp only [he] at this; simpa [h] using this
  · have he := Plain.esc_8 h
    have hl := congrArg List.length he
    simp only [List.length_cons, List.length_nil] at hl
    rw [hl, h]
    refine tok_8 g o n cap j w hn (by omega) ?_ ?_
    · have := hc 0 (by omega); simp only [he] at this; simpa using this
    · have := hc 1 (by omega); simp only [he] at this; simpa using this
  · have he := Plain.esc_9 h
    have hl := congrArg List.length he
    simp only [List.length_cons, List.length_nil] at hl
    rw [hl, h]
    refine tok_9 g o n cap j w hn (by omega) ?_ ?_
    · have := hc 0 (by omega); simp only [he] at this; simpa using this
    · have := hc 1 (by omega); simp only [he] at this; simpa using this
  · have he := Plain.esc_10 h
    have hl := congrArg List.length he
    simp only [List.length_cons, List.length_nil] at hl
    rw [hl, h]
    refine tok_10 g o n cap j w hn (by omega) ?_ ?_
    · have := hc 0 (by omega); simp only [he] at this; simpa using this
    · have := hc 1 (by omega); simp only [he] at this; simpa using this
  · have he := Plain.esc_12 h
    have hl := congrArg List.length he
    simp only [List.length_cons, List.length_nil] at hl
    rw [hl, h]
    refine tok_12 g o n cap j w hn (by omega) ?_ ?_
    · have := hc 0 (by omega); simp only [he] at this; simpa using this
    · have := hc 1 (by omega); simp only [he] at this; simpa using this
  · have he := Plain.esc_13 h
    have hl := congrArg List.length he
    simp only [List.length_cons, List.length_nil] at hl
    rw [hl, h]
    refine tok_13 g o n cap j w hn (by omega) ?_ ?_
    · have := hc 0 (by omega); simp only [he] at this; simpa using this
    · have := hc 1 (by omega); simp only [he] at this; simpa using this
  · have he := Plain.esc_ctl h
    have hl := congrArg List.length he
    simp only [List.length_cons, List.length_nil] at hl
    obtain ⟨q0, q1⟩ := h
    have hlt := UInt8.toNat_lt c
    have e : (c.toNat : Int) = ((c.toNat / 16 : Nat) : Int) * 16 + ((c.toNat % 16 : Nat) : Int) := by omega
    rw [hl, e]
    refine tok_ctl g o n cap j (c.toNat / 16) (c.toNat % 16) w hn (by omega) (by omega) (by omega) (by omega) ?_ ?_ ?_ ?_ ?_ ?_
    · have := hc 0 (by omega); simp only [he] at this; simpa using this
    · have := hc 1 (by omega); simp only [he] at this; simpa using this
    · have := hc 2 (by omega); simp only [he] at this; simpa using this
    · have := hc 3 (by omega); simp only [he] at this; simpa using this
    · have := hc 4 (by omega); simp only [he] at this; simpa using this
    · have := hc 5 (by omega); simp only [he] at this; simpa using this
  · have he := Plain.esc_raw h
    have hl := congrArg List.length he
    simp only [List.length_cons, List.length_nil] at hl
    rw [hl]
    refine tok_raw g o n cap j c w hn (by omega) h ?_
    have := hc 0 (by omega); simp only [he] at this; simpa using this
end Go.Proofs.Qxb6600192a.Esc
