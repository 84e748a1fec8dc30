import Derived.Test.Qxb6600192aKLeaf
namespace Go.Proofs.Qxb6600192a.Key
open Go.ChangeShapes Go.WideShapes Go.ChangeAt Go.RowKit
set_option linter.unusedVariables false
set_option linter.unusedSimpArgs false

/-- key leads k up to its end or up to a dot. -/
def lead (key k : ByteArray) : Bool := Plain.leads key.data.toList k.data.toList
/-- k, its star dropped, leads key. -/
def wild (key k : ByteArray) : Bool := star k && hasPre key (k.extract 0 (k.size - 1))
def one (key k : ByteArray) : Bool := lead key k || wild key k
theorem lead_no {key k : ByteArray} (h : hasPre k key = false) : lead key k = false := by
  rw [lead, Plain.leads_bpre]
  rw [hasPre] at h
  rw [h]; rfl
theorem hasPre_le {k key : ByteArray} (h : hasPre k key = true) : key.size ≤ k.size := by
  by_cases hh : key.size ≤ k.size
  · exact hh
  · rw [hasPre_long hh] at h; cases h
theorem lead_same {key k : ByteArray} (h : hasPre k key = true) (hs : k.size = key.size) : lead key k = true := by
  rw [lead, Plain.leads_bpre]
  rw [hasPre] at h
  rw [h, Plain.len_list, Plain.drop_end k key.size (by omega)]; rfl
theorem lead_next {key k : ByteArray} (h : hasPre k key = true) (hs : key.size < k.size) : lead key k = ((k[key.size].toNat : Int) == 46) := by
  rw [lead, Plain.leads_bpre]
  rw [hasPre] at h
  rw [h, Plain.len_list, Plain.drop_cons k key.size hs]
  rw [Bool.eq_iff_iff]; simp

/-- Some of the keys says yes. -/
def anyOf (key : ByteArray) (ks : List ByteArray) : Bool := ks.any (one key)
theorem anyOf_nil (key : ByteArray) : anyOf key [] = false := rfl
theorem anyOf_cons (key k : ByteArray) (ks : List ByteArray) : anyOf key (k :: ks) = (one key k || anyOf key ks) := by simp [anyOf]

set_option maxHeartbeats 4000000 in
theorem known_any (g cap : Nat) (ks : List ByteArray) (key : ByteArray) (w : World) (hkey : key.size ≤ maxLen) (hl : ks.length ≤ 1048576) (hsz : ∀ k ∈ ks, k.size ≤ maxLen)
    (hc : ∀ i (hi : i < ks.length), w.cell? ⟨g, i, none⟩ = some (.string ks[i])) :
    Calls Try.prog 25 #[.string key, .slice (some ⟨g, 0, none⟩) ks.length cap] w fun e w' => e = .returned (.bool (anyOf key ks)) ∧ w' = w := by
  have HC := hide hc; have HSZ := hide hsz; have HK := hide hkey
  clear hc hsz
  unfold maxLen at hkey
  go_enter Try.func25, Try.ntmps25
  go_wp2
  go_loop [11] (fun i => ∃ j : Nat, j ≤ ks.length ∧ i = .int .i64 j ∧ Hid (anyOf key ks = anyOf key (ks.drop j))) (fun i => ks.length - (intOf i).toNat)
  case atStart => exact ⟨0, Nat.zero_le _, rfl, hide (by simp)⟩
  case round =>
    obtain ⟨j, hj, rfl, HR⟩ := hrel
    by_cases hlt : j < ks.length
    · have hcj := HC.out j hlt
      have hszj : ks[j].size ≤ maxLen := HSZ.out _ (List.getElem_mem hlt)
      have HD : Hid (ks.drop j = ks[j] :: ks.drop (j + 1)) := List.drop_eq_getElem_cons hlt
      generalize ks[j] = k at *
      have HSJ := hide hszj
      unfold maxLen at hszj
      have hj1 : (j : Int) < (ks.length : Int) := by omega
      have hxe : Hid ((k.extract 0 (k.size - 1)).size ≤ maxLen) := by
        show _ ≤ _
        simp; unfold maxLen; omega
      cases hp : hasPre k key
      · have HL := hide (lead_no hp)
        cases hst : star k
        · have HN : Hid (one key k = false) := by show _ = _; simp [one, HL.out, wild, hst]
          go_wp2_with fail
          refine (pre27 _ _ _ HSJ.out HK.out).mono ?_; rintro e w' ⟨rfl, rfl⟩
          go_wp2_with fail
          refine (cut_no _ _ HSJ.out hst).mono ?_; rintro e w' ⟨rfl, rfl⟩
          go_wp2
          go_round
          case rel => exact ⟨j + 1, by omega, by go_num, hide (by rw [HR.out, HD.out, anyOf_cons, HN.out]; rfl)⟩
          case measure => simp [intOf]; omega
        · cases ho : hasPre key (k.extract 0 (k.size - 1))
          · have HN : Hid (one key k = false) := by show _ = _; simp [one, HL.out, wild, hst, ho]
            go_wp2_with fail
            refine (pre27 _ _ _ HSJ.out HK.out).mono ?_; rintro e w' ⟨rfl, rfl⟩
            go_wp2_with fail
            refine (cut_yes _ _ HSJ.out hst).mono ?_; rintro e w' ⟨rfl, rfl⟩
            go_wp2_with fail
            refine (pre27 _ _ _ HK.out hxe.out).mono ?_; rintro e w' ⟨rfl, rfl⟩
            go_wp2
            go_round
            case rel => exact ⟨j + 1, by omega, by go_num, hide (by rw [HR.out, HD.out, anyOf_cons, HN.out]; rfl)⟩
            case measure => simp [intOf]; omega
          · have HN : Hid (one key k = true) := by show _ = _; simp [one, HL.out, wild, hst, ho]
            go_wp2_with fail
            refine (pre27 _ _ _ HSJ.out HK.out).mono ?_; rintro e w' ⟨rfl, rfl⟩
            go_wp2_with fail
            refine (cut_yes _ _ HSJ.out hst).mono ?_; rintro e w' ⟨rfl, rfl⟩
            go_wp2_with fail
            refine (pre27 _ _ _ HK.out hxe.out).mono ?_; rintro e w' ⟨rfl, rfl⟩
            go_wp2
            go_ret
            exact ⟨ret_bool (by rw [HR.out, HD.out, anyOf_cons, HN.out]; rfl), rfl⟩
      · have hle := hasPre_le hp
        by_cases hse : k.size = key.size
        · have HN : Hid (one key k = true) := by show _ = _; simp [one, lead_same hp hse]
          have hb : ((k.size : Int) == (key.size : Int)) = true := by simp [hse]
          clear hse
          go_wp2_with fail
          refine (pre27 _ _ _ HSJ.out HK.out).mono ?_; rintro e w' ⟨rfl, rfl⟩
          go_wp2
          go_ret
          exact ⟨ret_bool (by rw [HR.out, HD.out, anyOf_cons, HN.out]; rfl), rfl⟩
        · have hlt2 : key.size < k.size := by omega
          have hb : ((k.size : Int) == (key.size : Int)) = false := beq_eq_false_iff_ne.2 (by omega)
          cases hdot : ((k[key.size].toNat : Int) == 46)
          · have HL := hide (show lead key k = false by rw [lead_next hp hlt2, hdot])
            clear hse
            cases hst : star k
            · have HN : Hid (one key k = false) := by show _ = _; simp [one, HL.out, wild, hst]
              go_wp2_with fail
              refine (pre27 _ _ _ HSJ.out HK.out).mono ?_; rintro e w' ⟨rfl, rfl⟩
              go_wp2_with fail
              refine (cut_no _ _ HSJ.out hst).mono ?_; rintro e w' ⟨rfl, rfl⟩
              go_wp2
              go_round
              case rel => exact ⟨j + 1, by omega, by go_num, hide (by rw [HR.out, HD.out, anyOf_cons, HN.out]; rfl)⟩
              case measure => simp [intOf]; omega
            · cases ho : hasPre key (k.extract 0 (k.size - 1))
              · have HN : Hid (one key k = false) := by show _ = _; simp [one, HL.out, wild, hst, ho]
                go_wp2_with fail
                refine (pre27 _ _ _ HSJ.out HK.out).mono ?_; rintro e w' ⟨rfl, rfl⟩
                go_wp2_with fail
                refine (cut_yes _ _ HSJ.out hst).mono ?_; rintro e w' ⟨rfl, rfl⟩
                go_wp2_with fail
                refine (pre27 _ _ _ HK.out hxe.out).mono ?_; rintro e w' ⟨rfl, rfl⟩
                go_wp2
                go_round
                case rel => exact ⟨j + 1, by omega, by go_num, hide (by rw [HR.out, HD.out, anyOf_cons, HN.out]; rfl)⟩
                case measure => simp [intOf]; omega
              · have HN : Hid (one key k = true) := by show _ = _; simp [one, HL.out, wild, hst, ho]
                go_wp2_with fail
                refine (pre27 _ _ _ HSJ.out HK.out).mono ?_; rintro e w' ⟨rfl, rfl⟩
                go_wp2_with fail
                refine (cut_yes _ _ HSJ.out hst).mono ?_; rintro e w' ⟨rfl, rfl⟩
                go_wp2_with fail
                refine (pre27 _ _ _ HK.out hxe.out).mono ?_; rintro e w' ⟨rfl, rfl⟩
                go_wp2
                go_ret
                exact ⟨ret_bool (by rw [HR.out, HD.out, anyOf_cons, HN.out]; rfl), rfl⟩
          · have HN : Hid (one key k = true) := by show _ = _; simp [one, lead_next hp hlt2, hdot]
            clear hse
            go_wp2_with fail
            refine (pre27 _ _ _ HSJ.out HK.out).mono ?_; rintro e w' ⟨rfl, rfl⟩
            go_wp2
            go_ret
            exact ⟨ret_bool (by rw [HR.out, HD.out, anyOf_cons, HN.out]; rfl), rfl⟩
    · have HD : Hid (ks.drop j = []) := List.drop_eq_nil_of_le (by omega)
      go_wp2
      go_ret
      exact ⟨ret_bool (by rw [HR.out, HD.out, anyOf_nil]), rfl⟩
end Go.Proofs.Qxb6600192a.Key
