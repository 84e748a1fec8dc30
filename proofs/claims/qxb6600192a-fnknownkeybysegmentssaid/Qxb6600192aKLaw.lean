import Derived.Test.Qxb6600192aKSeg
namespace Go.Proofs.Qxb6600192a.Key
open Go.ChangeShapes Go.WideShapes Go.ChangeAt Go.RowKit
set_option linter.unusedVariables false
set_option linter.unusedSimpArgs false

theorem anyOf_take (key : ByteArray) (ks : List ByteArray) (j : Nat) (h : j < ks.length) : anyOf key (ks.take (j + 1)) = (anyOf key (ks.take j) || one key ks[j]) := by
  rw [List.take_succ_eq_append_getElem h, anyOf, List.any_append]
  simp [anyOf]
theorem lead_pre (key k : ByteArray) : Plain.pre (Plain.splitL key.data.toList) (Plain.splitL k.data.toList) = lead key k := Plain.pre_split [] _ _
theorem seg_len (s : ByteArray) (h : s.size ≤ 1048576) : (Plain.splitL s.data.toList).length ≤ 2097152 := by
  have := (Plain.splitGo_len [] s.data.toList).2
  rw [Plain.len_list] at this
  unfold Plain.splitL
  omega
theorem own_cells {w : World} {B g cap : Nat} {l : List ByteArray} (h : w.ownsRow B 9 1 (.slice (some ⟨g, 0, none⟩) l.length cap) l.length (sc l)) : ∀ i (hi : i < l.length), w.cell? ⟨g, i, none⟩ = some (.string l[i]) := by
  intro i hi
  rw [h.cellAt i (by omega), sc_get l i hi]
theorem seg_cells {w : World} {B g cap : Nat} (s : ByteArray) (h : w.ownsRow B 9 1 (.slice (some ⟨g, 0, none⟩) (segs s).length cap) (segs s).length (sc (segs s))) :
    ∀ i (hi : i < (Plain.splitL s.data.toList).length), w.cell? ⟨g, i, none⟩ = some (.string ⟨(Plain.splitL s.data.toList)[i].toArray⟩) := by
  intro i hi
  have := own_cells h i (by rw [segs_eq, strs_len]; exact hi)
  rw [this]
  simp [segs]
theorem segs_len (s : ByteArray) : (segs s).length = (Plain.splitL s.data.toList).length := by rw [segs_eq, strs_len]
theorem grown_cells {w w2 : World} {g n : Nat} {f : Nat → Value} (hg : w.grownBy w2 none) (h : ∀ i, i < n → w.cell? ⟨g, i, none⟩ = some (f i)) : ∀ i, i < n → w2.cell? ⟨g, i, none⟩ = some (f i) :=
  fun i hi => hg.cell (h i hi) (by simp)

set_option maxHeartbeats 4000000 in
/-- No list came in. -/
theorem law_nil (key : ByteArray) (w : World) (hkey : key.size ≤ maxLen) :
    Calls Try.prog 5 #[.string key, .slice none 0 0] w fun e w' => e = .returned (.bool true) ∧ Below w.heap.size w w' := by
  go_enter Try.func5, Try.ntmps5
  go_wp2_with fail
  refine (zz14 none 0 [] key w hkey (Nat.zero_le _) (by intro k hk; cases hk) (.inl rfl)).mono ?_; rintro e w' ⟨⟨b, rfl, hb⟩, rfl⟩
  cases b
  · go_wp2
    go_ret
    exact ⟨rfl, Below.refl _ _⟩
  · have hle : key.size ≤ 1048576 := by have := hb rfl; omega
    have d1 : decide ((1048576 : Int) < (key.size : Int)) = false := decide_eq_false (by omega)
    clear hb
    go_wp2_with fail
    refine (bytes15 none 0 [] _ (Nat.zero_le _) (by intro k hk; cases hk) (.inl rfl)).mono ?_; rintro e w1 ⟨z, rfl, rfl, hz0, hz1⟩
    by_cases hz : z + key.size ≤ 1048576
    · have d2 : decide ((1048576 : Int) < z + (key.size : Int)) = false := decide_eq_false (by omega)
      go_wp2_with fail
      refine (clone_nil _).mono ?_; rintro e w2 ⟨rfl, rfl⟩
      go_wp2_with fail
      refine (split_any key _ hle).mono ?_; rintro e w3 ⟨g, cap, rfl, hown, hgrow⟩
      have hbel : Below w2.heap.size w2 w3 := (Below.refl _ _).grown hgrow (Nat.le_refl _) (by intro k hk; cases hk)
      clear hown hgrow
      go_wp2
      refine wp_loop_rounds 1 ?_
      rw [rounds_succ]
      go_wp2_with fail
      refine (zzKnown_nil _ _).mono ?_; rintro e w4 ⟨rfl, rfl⟩
      go_wp2
      go_ret
      exact ⟨rfl, hbel⟩
    · have d2 : decide ((1048576 : Int) < z + (key.size : Int)) = true := decide_eq_true (by omega)
      go_wp2
      go_ret
      exact ⟨rfl, Below.refl _ _⟩

set_option maxHeartbeats 8000000 in
/-- A list came in. -/
theorem law_some (x : Addr) (ks : List ByteArray) (cap0 : Nat) (key : ByteArray) (w : World) (hkey : key.size ≤ maxLen) (hl : ks.length ≤ maxLen) (hsz : ∀ k ∈ ks, k.size ≤ maxLen)
    (hc : ∀ i (hi : i < ks.length), w.cell? (x.add i) = some (.string ks[i])) :
    Calls Try.prog 5 #[.string key, .slice (some x) ks.length cap0] w fun e w' => e = .returned (.bool true) ∧ Below w.heap.size w w' := by
  have HC := hide hc; have HSZ := hide hsz; have HK := hide hkey; have HL := hide hl
  clear hc hsz hkey hl
  go_enter Try.func5, Try.ntmps5
  go_wp2_with fail
  refine (zz14 (some x) cap0 ks key w HK.out HL.out HSZ.out (.inr ⟨x, rfl, HC.out⟩)).mono ?_; rintro e w' ⟨⟨b, rfl, hb⟩, rfl⟩
  cases b
  · go_wp2
    go_ret
    exact ⟨rfl, Below.refl _ _⟩
  · have hbb := hb rfl
    have hle : key.size ≤ 1048576 := by omega
    have hll : ks.length ≤ 1048576 := by omega
    have HS2 : Hid (∀ k ∈ ks, k.size ≤ 1048576) := fun k hk => by have := total_mem hk; omega
    have d1 : decide ((1048576 : Int) < (key.size : Int)) = false := decide_eq_false (by omega)
    have d1b : decide ((1048576 : Int) < (ks.length : Int)) = false := decide_eq_false (by omega)
    clear hb hbb
    go_wp2_with fail
    refine (bytes15 (some x) cap0 ks _ hll HS2.out (.inr ⟨x, rfl, HC.out⟩)).mono ?_; rintro e w1 ⟨z, rfl, rfl, hz0, hz1⟩
    by_cases hz : z + key.size ≤ 1048576
    · have d2 : decide ((1048576 : Int) < z + (key.size : Int)) = false := decide_eq_false (by omega)
      go_wp2_with fail
      refine (clone_some x ks cap0 _ HC.out hll).mono ?_; rintro e w2 ⟨rfl, hown2, hgrow2⟩
      have HCELL := hide (own_cells hown2)
      have HB2 : Hid (Below w1.heap.size w1 w2) := (Below.refl _ _).grown hgrow2 (Nat.le_refl _) (by intro k hk; cases hk)
      clear hown2 hgrow2
      go_wp2_with fail
      refine (split_any key _ hle).mono ?_; rintro e w3 ⟨g, cap, rfl, hown3, hgrow3⟩
      have HKEYS : Hid (∀ i (hi : i < ks.length), w3.cell? ⟨w1.heap.size, i, none⟩ = some (.string ks[i])) := fun i hi => hgrow3.cell (HCELL.out i hi) (by simp)
      have HSEG := hide (seg_cells key hown3)
      have HB3 : Hid (Below w1.heap.size w1 w3) := HB2.out.grown hgrow3 HB2.out.size (by intro k hk; cases hk)
      rw [segs_len]
      clear hown3 hgrow3 HCELL HB2 HC
      have hX := seg_len key hle
      go_wp2
      go_loopw [5, 7] (fun t i wr => ∃ j : Nat, j ≤ ks.length ∧ i = .int .i64 j ∧ t = .bool (anyOf key (ks.take j)) ∧ w3.grownBy wr none) (fun _ i _ => ks.length - (intOf i).toNat)
      case atStart => exact ⟨0, Nat.zero_le _, rfl, rfl, World.grownBy.refl _ _⟩
      case round =>
        obtain ⟨j, hj, rfl, rfl, hgrow⟩ := hrel
        by_cases hlt : j < ks.length
        · have HT := hide (anyOf_take key ks j hlt)
          have hcj : wr.cell? ⟨w1.heap.size, j, none⟩ = some (.string ks[j]) := hgrow.cell (HKEYS.out j hlt) (by simp)
          have hsj : ks[j].size ≤ 1048576 := HS2.out _ (List.getElem_mem hlt)
          have hj1 : (j : Int) < (ks.length : Int) := by omega
          have HSW : Hid (∀ i (hi : i < (Plain.splitL key.data.toList).length), wr.cell? ⟨g, i, none⟩ = some (.string ⟨(Plain.splitL key.data.toList)[i].toArray⟩)) := fun i hi => hgrow.cell (HSEG.out i hi) (by simp)
          generalize ks[j] = k at *
          have HG := hide hgrow
          clear hgrow
          go_wp2_with fail
          refine (split_any k _ hsj).mono ?_; rintro e w4 ⟨g4, cap4, rfl, hown4, hgrow4⟩
          have HS4 := hide (seg_cells k hown4)
          have HSK : Hid (∀ i (hi : i < (Plain.splitL key.data.toList).length), w4.cell? ⟨g, i, none⟩ = some (.string ⟨(Plain.splitL key.data.toList)[i].toArray⟩)) := fun i hi => hgrow4.cell (HSW.out i hi) (by simp)
          have HG4 := hide (grown_trans HG.out hgrow4 (by intro k hk; cases hk))
          rw [segs_len]
          clear hown4 hgrow4 HSW HG hcj
          go_wp2_with fail
          refine (segPre_any g g4 cap cap4 (Plain.splitL key.data.toList) (Plain.splitL k.data.toList) _ hX (seg_len k hsj) HSK.out HS4.out).mono ?_; rintro e w5 ⟨rfl, q, rfl⟩
          have HG5 := hide (grown_trans HG4.out (grown_drewN w4 q) (by intro k hk; cases hk))
          clear HS4 HSK HG4
          rw [lead_pre]
          cases hld : lead key k
          · by_cases hk0 : 0 < k.size
            · have hk0' : decide ((0 : Int) < (k.size : Int)) = true := decide_eq_true (by omega)
              have hsl := star_last hk0
              cases hst : star k
              · rw [hst] at hsl
                have hb : ((k[k.size - 1].toNat : Int) == 42) = false := hsl.symm
                clear hsl
                have HN : Hid (one key k = false) := by show _ = _; simp [one, wild, hld, hst]
                go_wp2
                go_roundw
                case rel => exact ⟨j + 1, by omega, by go_num, by rw [HT.out, HN.out, Bool.or_false], HG5.out⟩
                case measure => simp [intOf]; omega
              · rw [hst] at hsl
                have hb : ((k[k.size - 1].toNat : Int) == 42) = true := hsl.symm
                clear hsl
                have hxe : Hid ((k.extract 0 (k.size - 1)).size ≤ maxLen) := by
                  show _ ≤ _
                  simp; unfold maxLen; omega
                cases ho : hasPre key (k.extract 0 (k.size - 1))
                · have HN : Hid (one key k = false) := by show _ = _; simp [one, wild, hld, hst, ho]
                  go_wp2_with fail
                  refine (bytePrefix_any key _ _ HK.out hxe.out).mono ?_; rintro e w6 ⟨rfl, q2, rfl⟩
                  have HG6 := hide (grown_trans HG5.out (grown_drewN _ q2) (by intro k hk; cases hk))
                  clear HG5
                  go_wp2
                  go_roundw
                  case rel => exact ⟨j + 1, by omega, by go_num, by rw [HT.out, HN.out, Bool.or_false], by rw [← World.drewN_drewN]; exact HG6.out⟩
                  case measure => simp [intOf]; omega
                · have HN : Hid (one key k = true) := by show _ = _; simp [one, wild, hld, hst, ho]
                  go_wp2_with fail
                  refine (bytePrefix_any key _ _ HK.out hxe.out).mono ?_; rintro e w6 ⟨rfl, q2, rfl⟩
                  have HG6 := hide (grown_trans HG5.out (grown_drewN _ q2) (by intro k hk; cases hk))
                  clear HG5
                  go_wp2
                  go_roundw
                  case rel => exact ⟨j + 1, by omega, by go_num, by rw [HT.out, HN.out, Bool.or_true], by rw [← World.drewN_drewN]; exact HG6.out⟩
                  case measure => simp [intOf]; omega
            · have hk0' : decide ((0 : Int) < (k.size : Int)) = false := decide_eq_false (by omega)
              have hst := star_empty hk0
              have HN : Hid (one key k = false) := by show _ = _; simp [one, wild, hld, hst]
              go_wp2
              go_roundw
              case rel => exact ⟨j + 1, by omega, by go_num, by rw [HT.out, HN.out, Bool.or_false], HG5.out⟩
              case measure => simp [intOf]; omega
          · by_cases hk0 : 0 < k.size
            · have hk0' : decide ((0 : Int) < (k.size : Int)) = true := decide_eq_true (by omega)
              have hsl := star_last hk0
              cases hst : star k
              · rw [hst] at hsl
                have hb : ((k[k.size - 1].toNat : Int) == 42) = false := hsl.symm
                clear hsl
                have HN : Hid (one key k = true) := by show _ = _; simp [one, wild, hld, hst]
                go_wp2
                go_roundw
                case rel => exact ⟨j + 1, by omega, by go_num, by rw [HT.out, HN.out, Bool.or_true], HG5.out⟩
                case measure => simp [intOf]; omega
              · rw [hst] at hsl
                have hb : ((k[k.size - 1].toNat : Int) == 42) = true := hsl.symm
                clear hsl
                have hxe : Hid ((k.extract 0 (k.size - 1)).size ≤ maxLen) := by
                  show _ ≤ _
                  simp; unfold maxLen; omega
                cases ho : hasPre key (k.extract 0 (k.size - 1))
                · have HN : Hid (one key k = true) := by show _ = _; simp [one, wild, hld, hst, ho]
                  go_wp2_with fail
                  refine (bytePrefix_any key _ _ HK.out hxe.out).mono ?_; rintro e w6 ⟨rfl, q2, rfl⟩
                  have HG6 := hide (grown_trans HG5.out (grown_drewN _ q2) (by intro k hk; cases hk))
                  clear HG5
                  go_wp2
                  go_roundw
                  case rel => exact ⟨j + 1, by omega, by go_num, by rw [HT.out, HN.out, Bool.or_true], by rw [← World.drewN_drewN]; exact HG6.out⟩
                  case measure => simp [intOf]; omega
                · have HN : Hid (one key k = true) := by show _ = _; simp [one, wild, hld, hst, ho]
                  go_wp2_with fail
                  refine (bytePrefix_any key _ _ HK.out hxe.out).mono ?_; rintro e w6 ⟨rfl, q2, rfl⟩
                  have HG6 := hide (grown_trans HG5.out (grown_drewN _ q2) (by intro k hk; cases hk))
                  clear HG5
                  go_wp2
                  go_roundw
                  case rel => exact ⟨j + 1, by omega, by go_num, by rw [HT.out, HN.out, Bool.or_true], by rw [← World.drewN_drewN]; exact HG6.out⟩
                  case measure => simp [intOf]; omega
            · have hk0' : decide ((0 : Int) < (k.size : Int)) = false := decide_eq_false (by omega)
              have hst := star_empty hk0
              have HN : Hid (one key k = true) := by show _ = _; simp [one, wild, hld, hst]
              go_wp2
              go_roundw
              case rel => exact ⟨j + 1, by omega, by go_num, by rw [HT.out, HN.out, Bool.or_true], HG5.out⟩
              case measure => simp [intOf]; omega
        · have HE : Hid (ks.take j = ks) := List.take_of_length_le (by omega)
          have HKW : Hid (∀ i (hi : i < ks.length), wr.cell? ⟨w1.heap.size, i, none⟩ = some (.string ks[i])) := fun i hi => hgrow.cell (HKEYS.out i hi) (by simp)
          have hbel : Below w1.heap.size w1 wr := HB3.out.grown hgrow HB3.out.size (by intro k hk; cases hk)
          rw [HE.out]
          clear hgrow HKEYS HSEG HB3
          go_wp2_with fail
          refine (zzKnown_any _ _ ks key _ HK.out hll HSZ.out HKW.out).mono ?_; rintro e w4 ⟨rfl, rfl⟩
          go_wp2
          go_ret
          exact ⟨by simp, hbel⟩
    · have d2 : decide ((1048576 : Int) < z + (key.size : Int)) = true := decide_eq_true (by omega)
      go_wp2
      go_ret
      exact ⟨rfl, Below.refl _ _⟩
/-- The walk, whatever list of strings came in. -/
theorem law_any (a0 : Option Addr) (len0 cap0 : Nat) (ss : List ByteArray) (key : ByteArray) (w : World) (hkey : key.size ≤ maxLen) (hl : len0 ≤ maxLen)
    (h : (a0 = none ∧ len0 = 0 ∧ cap0 = 0) ∨ ∃ x, a0 = some x ∧ len0 ≤ ss.length ∧ (∀ i, i < ss.length → w.cell? (x.add i) = some (.string (ss.getD i ByteArray.empty))) ∧ ∀ s ∈ ss, s.size ≤ maxLen) :
    Calls Try.prog 5 #[.string key, .slice a0 len0 cap0] w fun e w' => e = .returned (.bool true) ∧ Below w.heap.size w w' := by
  rcases h with ⟨rfl, rfl, rfl⟩ | ⟨x, rfl, hle, hc, hz⟩
  · exact law_nil key w hkey
  · have hlen : (ss.take len0).length = len0 := by simp; omega
    have := law_some x (ss.take len0) cap0 key w hkey (by omega) (fun s hs => hz s (List.mem_of_mem_take hs)) (fun i hi => by
      have hi' : i < len0 := by omega
      have hi2 : i < ss.length := by omega
      rw [hc i hi2]
      simp [List.getD, List.getElem?_eq_getElem hi2])
    rw [hlen] at this
    exact this
end Go.Proofs.Qxb6600192a.Key
