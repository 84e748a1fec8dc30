import Derived.Test.Qxb6600192aKKnown
namespace Go.Proofs.Qxb6600192a.Key
open Go.ChangeShapes Go.WideShapes Go.ChangeAt Go.RowKit
set_option linter.unusedVariables false
set_option linter.unusedSimpArgs false

theorem info9 : (Try.prog.info? 9).map (fun i => (i.zero, i.size, i.bytes)) = some (some (.string ⟨#[]⟩), 1, 16) := by kernel_rfl

/-- Strings as cells. -/
def sc (ks : List ByteArray) : List Value := ks.map Value.string
theorem sc_len (a : List ByteArray) : (sc a).length = a.length := by simp [sc]
theorem sc_app (a b : List ByteArray) : sc (a ++ b) = sc a ++ sc b := by simp [sc]
theorem sc_get (l : List ByteArray) (j : Nat) (h : j < l.length) : (sc l)[j]? = some (.string l[j]) := by simp [sc, h]

theorem grown_trans {a b c : World} {r r2 : Option Nat} (h : a.grownBy b r) (h2 : b.grownBy c r2) (hr : ∀ k, r2 = some k → some k = r ∨ a.heap.size ≤ k) : a.grownBy c r := by
  refine ⟨h2.os.trans h.os, h2.tape.trans h.tape, h2.output.trans h.output, Nat.le_trans h.size h2.size, fun k hk hn => ?_⟩
  rw [h2.block k (Nat.lt_of_lt_of_le hk h.size) ?_, h.block k hk hn]
  intro he
  rcases hr k he.symm with h' | h'
  · exact hn h'
  · omega
theorem grown_drewN (w : World) (q : Nat) : w.grownBy (w.drewN q) none := ⟨rfl, rfl, rfl, Nat.le_refl _, fun _ _ _ => rfl⟩

/-- The new row after k rounds. -/
def fillTo (l : List ByteArray) (k : Nat) : List Value := sc (l.take k) ++ List.replicate (l.length - k) (Value.string ⟨#[]⟩)
theorem fillTo_zero (l : List ByteArray) : fillTo l 0 = List.replicate l.length (Value.string ⟨#[]⟩) := by simp [fillTo, sc]
theorem fillTo_all (l : List ByteArray) (k : Nat) (h : l.length ≤ k) : fillTo l k = sc l := by
  simp [fillTo, List.take_of_length_le h, show l.length - k = 0 by omega]
theorem fillTo_len (l : List ByteArray) (k : Nat) (h : k ≤ l.length) : (fillTo l k).length = l.length := by
  simp [fillTo, sc_len]; omega
theorem fillTo_set (l : List ByteArray) (k : Nat) (h : k < l.length) : (fillTo l k).set k (.string l[k]) = fillTo l (k + 1) := by
  unfold fillTo
  have hk : (sc (l.take k)).length = k := by rw [sc_len, List.length_take]; omega
  rw [List.set_append_right _ _ (by omega), hk, Nat.sub_self, show l.length - k = (l.length - (k + 1)) + 1 by omega, List.replicate_succ, List.set_cons_zero,
    List.take_succ_eq_append_getElem h, sc_app, List.append_assoc]
  rfl

/-! ### zzCloneStrings -/
set_option maxHeartbeats 400000 in
theorem clone_nil (w : World) : Calls Try.prog 16 #[.slice none 0 0] w fun e w' => e = .returned (.slice none 0 0) ∧ w' = w := by
  have q28 := fun (w : World) (a : Option Addr) (n c n' c' : Nat) => Lib.run_eql_slice_nil (P := Try.prog) w 28 _ a n c n' c' Try.underlying28
  go_enter Try.func16, Try.ntmps16
  go_wp2
  go_ret
  exact ⟨rfl, rfl⟩
set_option maxHeartbeats 1000000 in
theorem clone_some (x : Addr) (l : List ByteArray) (cap : Nat) (w : World) (hc : ∀ i (hi : i < l.length), w.cell? (x.add i) = some (.string l[i])) (hb : l.length ≤ 1048576) :
    Calls Try.prog 16 #[.slice (some x) l.length cap] w fun e w' => e = .returned (.slice (some ⟨w.heap.size, 0, none⟩) l.length l.length) ∧
      w'.ownsRow w.heap.size 9 1 (.slice (some ⟨w.heap.size, 0, none⟩) l.length l.length) l.length (sc l) ∧ w.grownBy w' none := by
  obtain ⟨i0, hi, hz0, hz1, hz2⟩ := info_parts info9
  have q28 := fun (w : World) (a : Option Addr) (n c n' c' : Nat) => Lib.run_eql_slice_nil (P := Try.prog) w 28 _ a n c n' c' Try.underlying28
  have HC := hide hc; clear hc
  go_enter Try.func16, Try.ntmps16
  go_wp2_with (at_make; refine wpList_make_full _ rfl _ _ 28 rfl w.heap.size 9 i0 (.string ⟨#[]⟩) 1 Try.underlying28 hi hz0 hz1 _ _ _ _ l.length rfl rfl (by omega) (by omega) (by rw [hz2]; omega) (by unfold maxLen; omega) (Nat.le_refl _) ?_; intro w1 hown1 hgrow1)
  rw [Nat.mul_one, show (Value.string ⟨#[]⟩).cells = #[Value.string ⟨#[]⟩] from rfl, toList_madeCells_one, ← fillTo_zero] at hown1
  go_loopw [4] (fun i wr => ∃ k : Nat, k ≤ l.length ∧ i = .int .i64 k ∧ wr.ownsRow w.heap.size 9 1 (.slice (some ⟨w.heap.size, 0, none⟩) l.length l.length) l.length (fillTo l k) ∧ w.grownBy wr none)
    (fun i _ => l.length - (intOf i).toNat)
  case atStart => exact ⟨0, Nat.zero_le _, rfl, hown1, hgrow1⟩
  case round =>
    obtain ⟨k, hk, rfl, hown, hgrow⟩ := hrel
    clear hown1 hgrow1
    by_cases hlt : k < l.length
    · have hcw := HC.out k hlt
      have hcx : wr.cell? (x.add k) = some (.string l[k]) := hgrow.cell hcw (by simp)
      have hcy : wr.cell? ⟨w.heap.size, k, none⟩ = some ((fillTo l k)[k]'(by rw [fillTo_len l k hk]; exact hlt)) := by
        rw [hown.cellAt k (by omega)]; simp
      have hfy : wr.frozen? ⟨w.heap.size, k, none⟩ = false := hown.frozenAt k
      have R := hown.stored k (.string l[k])
      rw [fillTo_set l k hlt] at R
      have hg2 := grown_trans hgrow R.2 (fun j hj => .inr (by injection hj with hj; omega))
      have R1 := R.1
      generalize (fillTo l k)[k]'(by rw [fillTo_len l k hk]; exact hlt) = old at hcy
      clear R hcw hown hgrow
      go_wp2
      go_roundw
      case rel => exact ⟨k + 1, by omega, by go_num, R1, hg2⟩
      case measure => simp [intOf]; omega
    · rw [fillTo_all l k (by omega)] at hown
      go_wp2
      go_ret
      exact ⟨rfl, hown, hgrow⟩

/-! ### zzSplitDots -/
/-- The segments as strings. -/
def segs (s : ByteArray) : List ByteArray := (Plain.splitL s.data.toList).map fun x => ⟨x.toArray⟩
def strs (xs : List (List UInt8)) : List ByteArray := xs.map fun x => ⟨x.toArray⟩
theorem ext_mk (s : ByteArray) (a b : Nat) : s.extract a b = ⟨((s.data.toList.drop a).take (b - a)).toArray⟩ := by
  have := Lib.extract_data s a b
  cases h : s.extract a b with
  | mk d => rw [h] at this; simp only at this; rw [← this]
theorem split_dot (s : ByteArray) (st k : Nat) (hk : k < s.size) (h : (s[k].toNat : Int) = 46) :
    Plain.splitGo ((s.data.toList.drop st).take (k - st)) (s.data.toList.drop k) = (s.data.toList.drop st).take (k - st) :: Plain.splitGo ((s.data.toList.drop (k + 1)).take (k + 1 - (k + 1))) (s.data.toList.drop (k + 1)) := by
  rw [Plain.drop_cons s k hk, Plain.splitGo_dot _ h]; simp
theorem split_other (s : ByteArray) (st k : Nat) (hst : st ≤ k) (hk : k < s.size) (h : ¬ (s[k].toNat : Int) = 46) :
    Plain.splitGo ((s.data.toList.drop st).take (k - st)) (s.data.toList.drop k) = Plain.splitGo ((s.data.toList.drop st).take (k + 1 - st)) (s.data.toList.drop (k + 1)) := by
  have e : (s.data.toList.drop st).take (k + 1 - st) = (s.data.toList.drop st).take (k - st) ++ [s[k]] := by
    rw [show k + 1 - st = (k - st) + 1 by omega, List.take_succ_eq_append_getElem (by rw [List.length_drop, Plain.len_list]; omega), List.getElem_drop]
    have : st + (k - st) = k := by omega
    simp only [this]; rfl
  rw [e, Plain.drop_cons s k hk, Plain.splitGo_other _ h]
theorem split_end (s : ByteArray) (st k : Nat) (hk : s.size ≤ k) :
    Plain.splitGo ((s.data.toList.drop st).take (k - st)) (s.data.toList.drop k) = [(s.data.toList.drop st).take (s.size - st)] := by
  rw [Plain.drop_end s k hk, Plain.splitGo_nil]
  congr 1
  rw [List.take_of_length_le (by rw [List.length_drop, Plain.len_list]; omega), List.take_of_length_le (by rw [List.length_drop, Plain.len_list]; omega)]
theorem cell_str (w : World) (x : ByteArray) : ∀ j u, ([Value.string x] : List Value)[j]? = some u → (w.alloc (.cells #[.string x] 9)).cell? ((⟨w.heap.size, 0, none⟩ : Addr).add j) = some u := by
  intro j u hu
  match j, hu with
  | 0, hu => simp at hu; subst hu; simp [Addr.add]
  | j + 1, hu => simp at hu
theorem str_one (x : ByteArray) : ∀ u ∈ [Value.string x], u.oneCell' = true := by
  intro u hu
  simp at hu
  subst hu
  rfl

theorem strs_len (xs : List (List UInt8)) : (strs xs).length = xs.length := by simp [strs]
theorem next_seg {w wr w2 : World} {v v2 : Value} {D : List (List UInt8)} {o : Obj} (s : ByteArray) (st k : Nat) (hown : wr.ownsRow w.heap.size 9 1 v D.length (sc (strs D))) (hgrow : w.grownBy wr none)
    (hown2 : w2.ownsRow w.heap.size 9 1 v2 (D.length + 1) (sc (strs D) ++ [.string (s.extract st k)])) (hgrow2 : (wr.alloc o).grownBy w2 v.ownBlock) :
    w2.ownsRow w.heap.size 9 1 v2 (D ++ [(s.data.toList.drop st).take (k - st)]).length (sc (strs (D ++ [(s.data.toList.drop st).take (k - st)]))) ∧ w.grownBy w2 none := by
  constructor
  · rw [ext_mk] at hown2
    have e : sc (strs (D ++ [(s.data.toList.drop st).take (k - st)])) = sc (strs D) ++ [.string ⟨((s.data.toList.drop st).take (k - st)).toArray⟩] := by simp [sc, strs]
    rw [e, List.length_append]
    exact hown2
  · exact grown_trans (grown_trans hgrow (World.grownBy_alloc wr o none) (by intro k hk; cases hk)) hgrow2 (fun j hj => .inr (hown.lt j hj).1)
theorem shape {w : World} {B e size : Nat} {v : Value} {n : Nat} {xs : List Value} (h : w.ownsRow B e size v n xs) (hv : v ≠ .slice none 0 0) : ∃ g cap, v = .slice (some ⟨g, 0, none⟩) n cap := by
  rcases h.2 with ⟨h1, _⟩ | ⟨g, cap, cur, h1, _⟩
  · exact absurd h1 hv
  · exact ⟨g, cap, h1⟩
theorem segs_eq (s : ByteArray) : segs s = strs (Plain.splitL s.data.toList) := rfl
theorem seg_end {w w2 : World} {g cap : Nat} (s : ByteArray)
    (R : w2.ownsRow w.heap.size 9 1 (.slice (some ⟨g, 0, none⟩) (Plain.splitL s.data.toList).length cap) (Plain.splitL s.data.toList).length (sc (strs (Plain.splitL s.data.toList))) ∧ w.grownBy w2 none) :
    ∃ g2 cap2, Ending.returned (.slice (some ⟨g, 0, none⟩) (Plain.splitL s.data.toList).length cap) = .returned (.slice (some ⟨g2, 0, none⟩) (segs s).length cap2) ∧
      w2.ownsRow w.heap.size 9 1 (.slice (some ⟨g2, 0, none⟩) (segs s).length cap2) (segs s).length (sc (segs s)) ∧ w.grownBy w2 none := by
  rw [segs_eq, strs_len]
  exact ⟨g, cap, rfl, R.1, R.2⟩
set_option maxHeartbeats 2000000 in
theorem split_any (s : ByteArray) (w : World) (hs : s.size ≤ 1048576) :
    Calls Try.prog 17 #[.string s] w fun e w' => ∃ g cap, e = .returned (.slice (some ⟨g, 0, none⟩) (segs s).length cap) ∧
      w'.ownsRow w.heap.size 9 1 (.slice (some ⟨g, 0, none⟩) (segs s).length cap) (segs s).length (sc (segs s)) ∧ w.grownBy w' none := by
  obtain ⟨i0, hi, hz0, hz1, hz2⟩ := info_parts info9
  go_enter Try.func17, Try.ntmps17
  go_wp2_with (at_make; refine wpList_make_own _ rfl _ _ 28 rfl w.heap.size 9 i0 (.string ⟨#[]⟩) 1 Try.underlying28 hi hz0 hz1 _ _ _ 1 rfl rfl (by rfl) (by rw [hz2]; omega) (by unfold maxLen; omega) (Nat.le_refl _) ?_; intro w1 hown1 hgrow1)
  go_loopw [3, 4, 5] (fun v a i wr => ∃ (k st : Nat) (D : List (List UInt8)), k ≤ s.size ∧ st ≤ k ∧ i = .int .i64 k ∧ a = .int .i64 st ∧ D.length ≤ k ∧ wr.ownsRow w.heap.size 9 1 v D.length (sc (strs D)) ∧ w.grownBy wr none ∧
      Hid (Plain.splitL s.data.toList = D ++ Plain.splitGo ((s.data.toList.drop st).take (k - st)) (s.data.toList.drop k)))
    (fun _ _ i _ => s.size - (intOf i).toNat)
  case atStart => exact ⟨0, 0, [], Nat.zero_le _, Nat.le_refl _, rfl, rfl, Nat.zero_le _, hown1, hgrow1, hide (by simp [Plain.splitL])⟩
  case round =>
    rename_i v _ _
    obtain ⟨k, st, D, hk, hst, rfl, rfl, hD, hown, hgrow, HR⟩ := hrel
    have hsz := hgrow.size
    clear hown1 hgrow1
    by_cases hlt : k < s.size
    · by_cases hd : (s[k].toNat : Int) = 46
      · have hb : ((s[k].toNat : Int) == 46) = true := by simp [hd]
        have HS := hide (split_dot s st k hlt hd)
        clear hd
        go_wp2_with (at_builtin; refine wpList_append_own _ rfl (.tmp 17) (.tmp 22) 28 rfl w.heap.size 9 i0 (.string ⟨#[]⟩) 1 16 Try.underlying28 hi hz0 hz1 hz2 rfl (by decide) _ D.length (sc (strs D)) rfl (hown.alloc _) ⟨wr.heap.size, 0, none⟩ 1 1 [.string (s.extract st k)] rfl rfl (cell_str wr _) (str_one _) (by unfold maxLen; omega) (by omega) (by simp; omega) ?_; intro v2 w2 hown2 hgrow2 hnil2)
        have R := next_seg s st k hown hgrow hown2 hgrow2
        clear hown2 hgrow2 hnil2 hown hgrow
        go_roundw
        case rel => exact ⟨k + 1, k + 1, D ++ [(s.data.toList.drop st).take (k - st)], by omega, Nat.le_refl _, by go_num, by go_num, by simp; omega, R.1, R.2, hide (by rw [HR.out, HS.out]; simp)⟩
        case measure => simp [intOf]; omega
      · have hb : ((s[k].toNat : Int) == 46) = false := by simp [hd]
        have HS := hide (split_other s st k hst hlt hd)
        clear hd
        go_wp2
        go_roundw
        case rel => exact ⟨k + 1, st, D, by omega, by omega, by go_num, rfl, by omega, hown, hgrow, hide (by rw [HR.out, HS.out])⟩
        case measure => simp [intOf]; omega
    · have HE := hide (split_end s st k (by omega))
      have hss : st ≤ s.size := by omega
      go_wp2_with (at_builtin; refine wpList_append_own _ rfl (.tmp 26) (.tmp 30) 28 rfl w.heap.size 9 i0 (.string ⟨#[]⟩) 1 16 Try.underlying28 hi hz0 hz1 hz2 rfl (by decide) _ D.length (sc (strs D)) rfl (hown.alloc _) ⟨wr.heap.size, 0, none⟩ 1 1 [.string (s.extract st s.size)] rfl rfl (cell_str wr _) (str_one _) (by unfold maxLen; omega) (by omega) (by simp; omega) ?_; intro v2 w2 hown2 hgrow2 hnil2)
      have R := next_seg s st s.size hown hgrow hown2 hgrow2
      have hv2 : v2 ≠ .slice none 0 0 := fun h => by have := (hnil2.1 h).2; omega
      have HF := hide (show Plain.splitL s.data.toList = D ++ [(s.data.toList.drop st).take (s.size - st)] by rw [HR.out, HE.out])
      clear hown2 hgrow2 hnil2 hown hgrow HR HE
      rw [← HF.out] at R
      obtain ⟨g, cap, hv⟩ := shape R.1 hv2
      subst hv
      go_wp2
      go_ret
      exact seg_end s R
end Go.Proofs.Qxb6600192a.Key
