import Derived.Test.Qxb6600192aKMem
namespace Go.Proofs.Qxb6600192a.Key
open Go.ChangeShapes Go.WideShapes Go.ChangeAt Go.RowKit
set_option linter.unusedVariables false
set_option linter.unusedSimpArgs false

theorem pre_nil (y : List (List UInt8)) : Plain.pre [] y = true := by cases y <;> rfl
theorem pre_long (x y : List (List UInt8)) (h : y.length < x.length) : Plain.pre x y = false := by
  induction x generalizing y with
  | nil => simp at h
  | cons a x ih =>
    cases y with
    | nil => rfl
    | cons b y => simp only [Plain.pre, ih y (by simp at h; omega), Bool.and_false]

set_option maxHeartbeats 1000000 in
theorem segPre_any (g1 g2 c1 c2 : Nat) (X Y : List (List UInt8)) (w : World) (hX : X.length ≤ 2097152) (hY : Y.length ≤ 2097152)
    (h1 : ∀ i (hi : i < X.length), w.cell? ⟨g1, i, none⟩ = some (.string ⟨X[i].toArray⟩)) (h2 : ∀ i (hi : i < Y.length), w.cell? ⟨g2, i, none⟩ = some (.string ⟨Y[i].toArray⟩)) :
    Calls Try.prog 18 #[.slice (some ⟨g1, 0, none⟩) X.length c1, .slice (some ⟨g2, 0, none⟩) Y.length c2] w fun e w' => e = .returned (.bool (Plain.pre X Y)) ∧ ∃ q, w' = w.drewN q := by
  have H1 := hide h1; have H2 := hide h2; clear h1 h2
  by_cases h : X.length ≤ Y.length
  · have d : decide (Y.length < X.length) = false := decide_eq_false (by omega)
    go_enter Try.func18, Try.ntmps18
    go_wp2
    go_loopw [5] (fun i wr => ∃ k : Nat, k ≤ X.length ∧ i = .int .i64 k ∧ (∃ q, wr = w.drewN q) ∧ Hid (Plain.pre X Y = Plain.pre (X.drop k) (Y.drop k))) (fun i _ => X.length - (intOf i).toNat)
    case atStart => exact ⟨0, Nat.zero_le _, rfl, ⟨0, rfl⟩, hide (by simp)⟩
    case round =>
      obtain ⟨k, hk, rfl, ⟨q, rfl⟩, HR⟩ := hrel
      by_cases hlt : k < X.length
      · have hky : k < Y.length := by omega
        have hi1 : (k : Int) < (X.length : Int) := by omega
        have hi2 : (k : Int) < (Y.length : Int) := by omega
        have cx := H1.out k hlt
        have cy := H2.out k hky
        have HD1 : Hid (X.drop k = X[k] :: X.drop (k + 1)) := List.drop_eq_getElem_cons hlt
        have HD2 : Hid (Y.drop k = Y[k] :: Y.drop (k + 1)) := List.drop_eq_getElem_cons hky
        generalize X[k] = x at *
        generalize Y[k] = y at *
        by_cases he : x = y
        · have hb : (x == y) = true := beq_iff_eq.2 he
          have HE := hide he; clear he
          go_wp2
          go_quiet (fail)
          go_wp2
          go_roundw
          case rel => exact ⟨k + 1, by omega, by go_num, ⟨_, rfl⟩, hide (by rw [HR.out, HD1.out, HD2.out, Plain.pre, decide_eq_true HE.out]; rfl)⟩
          case measure => simp [intOf]; omega
        · have hb : (x == y) = false := beq_eq_false_iff_ne.2 he
          have HE := hide he; clear he
          go_wp2
          go_quiet (fail)
          go_wp2
          go_ret
          exact ⟨ret_bool (by rw [HR.out, HD1.out, HD2.out, Plain.pre, decide_eq_false HE.out]; rfl), q + nq, World.drewN_drewN _ _ _⟩
      · have HD1 : Hid (X.drop k = []) := List.drop_eq_nil_of_le (by omega)
        go_wp2
        go_ret
        exact ⟨ret_bool (by rw [HR.out, HD1.out, pre_nil]), _, rfl⟩
  · have HE := hide (pre_long X Y (by omega))
    have d : decide (Y.length < X.length) = true := decide_eq_true (by omega)
    go_enter Try.func18, Try.ntmps18
    go_wp2
    go_ret
    exact ⟨ret_bool (by rw [HE.out]), 0, rfl⟩

/-! ### the guards on the lengths -/
/-- The lengths of the strings, added up. -/
def total : List ByteArray → Nat
  | [] => 0
  | k :: ks => k.size + total ks
theorem total_mem {ks : List ByteArray} {k : ByteArray} (h : k ∈ ks) : k.size ≤ total ks := by
  induction ks with
  | nil => cases h
  | cons a ks ih =>
    simp only [total]
    rcases List.mem_cons.1 h with rfl | h
    · omega
    · have := ih h; omega
theorem total_take (ks : List ByteArray) (j : Nat) (h : j < ks.length) : total (ks.take (j + 1)) = total (ks.take j) + ks[j].size := by
  induction ks generalizing j with
  | nil => simp at h
  | cons a ks ih =>
    cases j with
    | zero => simp [total]
    | succ j =>
      have := ih j (by simpa using h)
      simp only [List.take_succ_cons, total, List.getElem_cons_succ]
      omega

/-- What the guard answers. -/
def Guard (key : ByteArray) (ks : List ByteArray) (e : Ending) : Prop := ∃ b, e = .returned (.bool b) ∧ (b = true → key.size + ks.length + total ks ≤ 1048576)
set_option maxHeartbeats 2000000 in
/-- The guard that is laid by program: it says yes only where all lengths add up to at most 1<<20. -/
theorem zz14 (ao : Option Addr) (cap : Nat) (ks : List ByteArray) (key : ByteArray) (w : World) (hkey : key.size ≤ maxLen) (hl : ks.length ≤ maxLen) (hsz : ∀ k ∈ ks, k.size ≤ maxLen)
    (hc : ks = [] ∨ ∃ x : Addr, ao = some x ∧ ∀ i (hi : i < ks.length), w.cell? (x.add i) = some (.string ks[i])) :
    Calls Try.prog 14 #[.string key, .slice ao ks.length cap] w fun e w' => Guard key ks e ∧ w' = w := by
  unfold maxLen at hkey hl
  by_cases h1 : key.size ≤ 1048576
  · by_cases h2 : ks.length ≤ 1048576
    · by_cases h3 : key.size + ks.length ≤ 1048576
      · rcases hc with rfl | ⟨x, rfl, hc⟩
        · go_enter Try.func14, Try.ntmps14
          go_wp2
          refine wp_loop_rounds 1 ?_
          rw [rounds_succ]
          go_wp2
          go_ret
          exact ⟨⟨_, rfl, fun _ => by simp only [List.length_nil, total]; omega⟩, rfl⟩
        · have HC := hide hc; have HSZ := hide hsz; clear hc hsz
          go_enter Try.func14, Try.ntmps14
          go_wp2
          go_loop [5, 6] (fun z i => ∃ j : Nat, j ≤ ks.length ∧ i = .int .i64 j ∧ z = .int .i64 (key.size + ks.length + total (ks.take j) : Nat) ∧ key.size + ks.length + total (ks.take j) ≤ 1048576) (fun _ i => ks.length - (intOf i).toNat)
          case atStart => exact ⟨0, Nat.zero_le _, rfl, by simp [total], by simpa [total] using h3⟩
          case round =>
            obtain ⟨j, hj, rfl, rfl, hle⟩ := hrel
            by_cases hlt : j < ks.length
            · have hcj := HC.out j hlt
              have hsj : ks[j].size ≤ maxLen := HSZ.out _ (List.getElem_mem hlt)
              have HT := hide (total_take ks j hlt)
              have hj1 : (j : Int) < (ks.length : Int) := by omega
              unfold maxLen at hsj
              generalize ks[j] = k at *
              have HS : Hid (key.size + ks.length + total (ks.take (j + 1)) = key.size + ks.length + total (ks.take j) + k.size) := by show _ = _; rw [HT.out]; omega
              clear HT
              generalize total (ks.take j) = T at *
              by_cases hk1 : k.size ≤ 1048576
              · by_cases hk2 : key.size + ks.length + T + k.size ≤ 1048576
                · go_wp2
                  go_round
                  case rel => exact ⟨j + 1, by omega, by go_num, by rw [HS.out]; go_num, by rw [HS.out]; exact hk2⟩
                  case measure => simp [intOf]; omega
                · go_wp2
                  go_ret
                  exact ⟨⟨_, rfl, fun h => by cases h⟩, rfl⟩
              · go_wp2
                go_ret
                exact ⟨⟨_, rfl, fun h => by cases h⟩, rfl⟩
            · have HE : Hid (ks.take j = ks) := List.take_of_length_le (by omega)
              have HF := hide hle
              go_wp2
              go_ret
              exact ⟨⟨_, rfl, fun _ => by have h := HF.out; rw [HE.out] at h; exact h⟩, rfl⟩
      · go_enter Try.func14, Try.ntmps14
        go_wp2
        go_ret
        exact ⟨⟨_, rfl, fun h => by cases h⟩, rfl⟩
    · go_enter Try.func14, Try.ntmps14
      go_wp2
      go_ret
      exact ⟨⟨_, rfl, fun h => by cases h⟩, rfl⟩
  · go_enter Try.func14, Try.ntmps14
    go_wp2
    go_ret
    exact ⟨⟨_, rfl, fun h => by cases h⟩, rfl⟩

set_option maxHeartbeats 2000000 in
/-- zzStringsBytes: some count, at most one past the limit. -/
theorem bytes15 (ao : Option Addr) (cap : Nat) (ks : List ByteArray) (w : World) (hl : ks.length ≤ 1048576) (hsz : ∀ k ∈ ks, k.size ≤ 1048576)
    (hc : ks = [] ∨ ∃ x : Addr, ao = some x ∧ ∀ i (hi : i < ks.length), w.cell? (x.add i) = some (.string ks[i])) :
    Calls Try.prog 15 #[.slice ao ks.length cap] w fun e w' => ∃ z : Int, e = .returned (.int .i64 z) ∧ w' = w ∧ 0 ≤ z ∧ z ≤ 1048577 := by
  rcases hc with rfl | ⟨x, rfl, hc⟩
  · go_enter Try.func15, Try.ntmps15
    go_wp2
    refine wp_loop_rounds 1 ?_
    rw [rounds_succ]
    go_wp2
    go_ret
    exact ⟨0, rfl, rfl, by omega, by omega⟩
  · have HC := hide hc; have HSZ := hide hsz; clear hc hsz
    go_enter Try.func15, Try.ntmps15
    go_wp2
    go_loop [3, 4] (fun z i => ∃ (j : Nat) (n : Int), j ≤ ks.length ∧ i = .int .i64 j ∧ z = .int .i64 n ∧ 0 ≤ n ∧ n ≤ 1048576) (fun _ i => ks.length - (intOf i).toNat)
    case atStart => exact ⟨0, 0, Nat.zero_le _, rfl, rfl, by omega, by omega⟩
    case round =>
      obtain ⟨j, n, hj, rfl, rfl, hn0, hn1⟩ := hrel
      by_cases hlt : j < ks.length
      · have hcj := HC.out j hlt
        have hsj : ks[j].size ≤ 1048576 := HSZ.out _ (List.getElem_mem hlt)
        have hj1 : (j : Int) < (ks.length : Int) := by omega
        generalize ks[j] = k at *
        by_cases hk : n + (16 + k.size) ≤ 1048576
        · go_wp2
          go_round
          case rel => exact ⟨j + 1, n + (16 + k.size), by omega, by go_num, rfl, by omega, hk⟩
          case measure => simp [intOf]; omega
        · go_wp2
          go_ret
          exact ⟨1048577, rfl, rfl, by omega, by omega⟩
      · go_wp2
        go_ret
        exact ⟨n, rfl, rfl, by omega, by omega⟩

/-! ### the shim -/
set_option maxHeartbeats 400000 in
theorem zzKnown_any (g cap : Nat) (ks : List ByteArray) (key : ByteArray) (w : World) (hkey : key.size ≤ maxLen) (hl : ks.length ≤ 1048576) (hsz : ∀ k ∈ ks, k.size ≤ maxLen)
    (hc : ∀ i (hi : i < ks.length), w.cell? ⟨g, i, none⟩ = some (.string ks[i])) :
    Calls Try.prog 20 #[.string key, .slice (some ⟨g, 0, none⟩) ks.length cap] w fun e w' => e = .returned (.bool (anyOf key ks)) ∧ w' = w := by
  have HA := hide (known_any g cap ks key w hkey hl hsz hc)
  clear hkey hl hsz hc
  go_enter Try.func20, Try.ntmps20
  go_wp2_with fail
  refine HA.out.mono ?_; rintro e w' ⟨rfl, rfl⟩
  go_wp2
  go_ret
  exact ⟨rfl, rfl⟩
set_option maxHeartbeats 400000 in
theorem known_nil (key : ByteArray) (w : World) : Calls Try.prog 25 #[.string key, .slice none 0 0] w fun e w' => e = .returned (.bool false) ∧ w' = w := by
  go_enter Try.func25, Try.ntmps25
  go_wp2
  refine wp_loop_rounds 1 ?_
  rw [rounds_succ]
  go_wp2
  go_ret
  exact ⟨rfl, rfl⟩
set_option maxHeartbeats 400000 in
theorem zzKnown_nil (key : ByteArray) (w : World) : Calls Try.prog 20 #[.string key, .slice none 0 0] w fun e w' => e = .returned (.bool false) ∧ w' = w := by
  go_enter Try.func20, Try.ntmps20
  go_wp2_with fail
  refine (known_nil _ _).mono ?_; rintro e w' ⟨rfl, rfl⟩
  go_wp2
  go_ret
  exact ⟨rfl, rfl⟩
end Go.Proofs.Qxb6600192a.Key
