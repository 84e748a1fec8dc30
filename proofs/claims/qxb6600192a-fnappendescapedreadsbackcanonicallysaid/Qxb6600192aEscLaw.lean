import Derived.Test.Qxb6600192aDec
import Derived.BigQuiet
namespace Go.Proofs.Qxb6600192a.Esc
open Go.ChangeShapes Go.WideShapes Go.ChangeAt Go.RowKit
set_option linter.unusedVariables false
set_option linter.unusedSimpArgs false

/-- The bound on the total length. -/
def fits (a b : Nat) : Bool := decide (a + b ≤ 1048576)
theorem fits_yes {a b : Nat} (h : a + b ≤ 1048576) : fits a b = true := by simp [fits, h]
theorem fits_no {a b : Nat} (h : ¬ a + b ≤ 1048576) : fits a b = false := by simp [fits]; omega
set_option maxHeartbeats 400000 in
theorem zz8 (a : Option Addr) (n cap : Nat) (t : ByteArray) (w : World) (hs : n ≤ maxLen) (ht : t.size ≤ maxLen) :
    Calls Try.prog 8 #[.slice a n cap, .string t] w fun e w' => e = .returned (.bool (fits n t.size)) ∧ w' = w := by
  unfold maxLen at hs ht
  by_cases h1 : n ≤ 1048576
  · by_cases h2 : t.size ≤ 1048576
    · by_cases h3 : n + t.size ≤ 1048576
      · have hf := hide (fits_yes h3)
        go_enter Try.func8, Try.ntmps8
        go_wp2
        go_ret
        exact ⟨ret_bool hf.out.symm, rfl⟩
      · have hf := hide (fits_no h3)
        go_enter Try.func8, Try.ntmps8
        go_wp2
        go_ret
        exact ⟨ret_bool hf.out.symm, rfl⟩
    · have hf := hide (fits_no (a := n) (b := t.size) (by omega))
      go_enter Try.func8, Try.ntmps8
      go_wp2
      go_ret
      exact ⟨ret_bool hf.out.symm, rfl⟩
  · have hf := hide (fits_no (a := n) (b := t.size) (by omega))
    go_enter Try.func8, Try.ntmps8
    go_wp2
    go_ret
    exact ⟨ret_bool hf.out.symm, rfl⟩
set_option maxHeartbeats 400000 in
theorem zzEsc_any (v : Value) (l : List UInt8) (s : ByteArray) (r : Option Nat) (w : World) (hT : Tr w r w v l) (hb : l.length + 6 * s.size ≤ 1073741824) :
    Calls Try.prog 10 #[v, .string s] w fun e w' => ∃ v', e = .returned v' ∧ Tr w r w' v' (l ++ Plain.escL s.data.toList) := by
  go_enter Try.func10, Try.ntmps10
  go_wp2_with fail
  refine (esc_any v l s r w hT hb).mono ?_; rintro e w' ⟨v', rfl, hT'⟩
  go_wp2
  go_ret
  exact ⟨_, rfl, hT'⟩

/-- The shape of a slice that holds l. -/
theorem Tr.shape {w0 w : World} {r : Option Nat} {v : Value} {l : List UInt8} (h : Tr w0 r w v l) :
    (v = .slice none 0 0 ∧ l = []) ∨ ∃ g cap, v = .slice (some ⟨g, 0, none⟩) l.length cap ∧ l.length ≤ cap ∧ ∀ i (hi : i < l.length), w.cell? ⟨g, i, none⟩ = some (.int .u8 (l[i].toNat : Int)) := by
  have hown := h.own
  rcases hown.2 with ⟨h1, h2⟩ | ⟨g, cap, cur, h1, _, _, h3, _⟩
  · exact .inl ⟨h1, List.eq_nil_of_length_eq_zero h2⟩
  · refine .inr ⟨g, cap, h1, h3, fun i hi => ?_⟩
    rw [h1] at hown
    rw [hown.cellAt i (by omega), bc_get l i hi]
theorem esc_nil {s : ByteArray} (h : Plain.escL s.data.toList = []) : s.size = 0 := by
  by_cases h0 : 0 < s.size
  · have := (esc_at s 0 h0).1
    rw [h] at this
    have h1 := (Plain.esc_len s[0]).1
    simp at this
    have := this.2
    rw [this] at h1
    simp at h1
  · omega
theorem esc_of_zero {s : ByteArray} (h : s.size = 0) : Plain.escL s.data.toList = [] := by
  have : s.data.toList = [] := List.eq_nil_of_length_eq_zero (by rw [Plain.len_list]; exact h)
  rw [this]; rfl

set_option maxHeartbeats 4000000 in
/-- A nil slice came in. -/
theorem law_nil (s : ByteArray) (w : World) (hs : s.size ≤ 1048576) :
    Calls Try.prog 3 #[.slice none 0 0, .string s] w fun e w' => e = .returned (.bool true) ∧ Below w.heap.size w w' := by
  have hf := fits_yes (a := 0) (b := s.size) (by omega)
  have d2 : decide ((1048576 : Int) < (s.size : Int)) = false := decide_eq_false (by omega)
  go_enter Try.func3, Try.ntmps3
  go_wp2_with fail
  refine (zz8 none 0 0 s _ (by unfold maxLen; omega) (by unfold maxLen; omega)).mono ?_; rintro e w' ⟨rfl, rfl⟩
  go_wp2_with fail
  refine (clone_nil _).mono ?_; rintro e w' ⟨rfl, rfl⟩
  go_wp2_with fail
  refine (clone_nil _).mono ?_; rintro e w' ⟨rfl, rfl⟩
  go_wp2_with fail
  refine (zzEsc_any _ [] s none _ ⟨World.ownsRow_nil _ _ _ _, World.grownBy.refl _ _, by intro k hk; cases hk⟩ (by simp; omega)).mono ?_; rintro e w3 ⟨v3, rfl, hT⟩
  rw [List.nil_append] at hT
  have hbel : Below w'.heap.size w' w3 := (Below.refl _ _).grown hT.grown (Nat.le_refl _) (by intro k hk; cases hk)
  rcases hT.shape with ⟨rfl, hE⟩ | ⟨g, cap, rfl, hcap, hcell⟩
  · have HS := hide (esc_nil hE)
    clear hT hE
    go_wp2
    refine wp_loop_rounds 1 ?_
    rw [rounds_succ]
    go_wp2_with fail
    refine (dec_empty _ _ _ _ HS.out).mono ?_; rintro e w4 ⟨rfl, rfl⟩
    go_wp2
    go_ret
    exact ⟨rfl, hbel⟩
  · have HD := hide (dec_any g 0 _ cap s w3 hs rfl (fun i hi => by rw [Nat.zero_add]; exact hcell i hi))
    have HZ := hide (fun (h : (Plain.escL s.data.toList).length = 0) => esc_nil (List.eq_nil_of_length_eq_zero h))
    clear hT hcell
    generalize (Plain.escL s.data.toList).length = N at *
    by_cases hN : N = 0
    · subst hN
      have HS := hide (HZ.out rfl)
      clear HZ HD
      by_cases hc0 : cap = 0
      · subst hc0
        go_wp2
        refine wp_loop_rounds 1 ?_
        rw [rounds_succ]
        go_wp2_with fail
        refine (dec_empty _ _ _ _ HS.out).mono ?_; rintro e w4 ⟨rfl, rfl⟩
        go_wp2
        go_ret
        exact ⟨rfl, hbel⟩
      · go_wp2
        refine wp_loop_rounds 1 ?_
        rw [rounds_succ]
        go_wp2_with fail
        refine (dec_empty _ _ _ _ HS.out).mono ?_; rintro e w4 ⟨rfl, rfl⟩
        go_wp2
        go_ret
        exact ⟨rfl, hbel⟩
    · have hc0 : ¬ cap = 0 := by omega
      clear HZ
      go_wp2
      refine wp_loop_rounds 1 ?_
      rw [rounds_succ]
      go_wp2_with fail
      refine HD.out.mono ?_; rintro e w4 ⟨rfl, rfl⟩
      go_wp2
      go_ret
      exact ⟨rfl, hbel⟩

theorem own_cells {w : World} {B g cap : Nat} {l : List UInt8} (h : w.ownsRow B 5 1 (.slice (some ⟨g, 0, none⟩) l.length cap) l.length (bc l)) : ∀ i (hi : i < l.length), w.cell? ((⟨g, 0, none⟩ : Addr).add i) = some (.int .u8 (l[i].toNat : Int)) := by
  intro i hi
  rw [Addr.add_lit, Nat.zero_add, h.cellAt i (by omega), bc_get l i hi]

set_option maxHeartbeats 8000000 in
/-- A slice that is not nil came in. -/
theorem law_some (x : Addr) (l : List UInt8) (cap0 : Nat) (s : ByteArray) (w : World) (hc : ∀ i (hi : i < l.length), w.cell? (x.add i) = some (.int .u8 (l[i].toNat : Int))) (hb : l.length + s.size ≤ 1048576) :
    Calls Try.prog 3 #[.slice (some x) l.length cap0, .string s] w fun e w' => e = .returned (.bool true) ∧ Below w.heap.size w w' := by
  have hf := fits_yes hb
  have hs : s.size ≤ 1048576 := by omega
  have hl : l.length ≤ 1048576 := by omega
  have d1 : decide ((1048576 : Int) < (l.length : Int)) = false := decide_eq_false (by omega)
  have d2 : decide ((1048576 : Int) < (s.size : Int)) = false := decide_eq_false (by omega)
  have d3 : decide ((1048576 : Int) < (l.length : Int) + (s.size : Int)) = false := decide_eq_false (by omega)
  have HC := hide hc; clear hc
  go_enter Try.func3, Try.ntmps3
  go_wp2_with fail
  refine (zz8 _ _ _ s _ (by unfold maxLen; omega) (by unfold maxLen; omega)).mono ?_; rintro e w' ⟨rfl, rfl⟩
  go_wp2_with fail
  refine (clone_some x l cap0 _ HC.out hl).mono ?_; rintro e w1 ⟨rfl, hown1, hgrow1⟩
  have HOWN1 := hide hown1
  have HG1 := hide hgrow1
  have hB1 : w'.heap.size < w1.heap.size := (hown1.lt _ rfl).2
  clear hown1 hgrow1
  go_wp2_with fail
  refine (clone_some ⟨w'.heap.size, 0, none⟩ l l.length w1 (own_cells HOWN1.out) hl).mono ?_; rintro e w2 ⟨rfl, hown2, hgrow2⟩
  have HOWN1' := hide (HOWN1.out.kept hgrow2 (.inr (by simp [Value.ownBlock])))
  have HOWN2 := hide hown2
  have HG2 := hide hgrow2
  clear hown2 hgrow2
  go_wp2_with fail
  refine (zzEsc_any _ l s (some w'.heap.size) w2 ⟨own_zero HOWN1'.out, World.grownBy.refl _ _, fun k hk => .inl hk.symm⟩ (by omega)).mono ?_; rintro e w3 ⟨v3, rfl, hT⟩
  have HOWN3 := hide (HOWN2.out.kept hT.grown (.inr (by simp [Value.ownBlock]; omega)))
  have hz2 : w1.heap.size ≤ w2.heap.size := HG2.out.size
  have hbel : Below w'.heap.size w' w3 :=
    (((Below.refl _ _).grown HG1.out (Nat.le_refl _) (by intro k hk; cases hk)).grown HG2.out (by omega) (by intro k hk; cases hk)).grown hT.grown (by omega) (by intro k hk; cases hk; exact Nat.le_refl _)
  clear HOWN1 HOWN1' HOWN2 HG1 HG2
  rcases hT.shape with ⟨rfl, hE⟩ | ⟨g, cap, rfl, hcap, hcell⟩
  · obtain ⟨hE1, hE2⟩ := List.append_eq_nil_iff.1 hE
    subst hE1
    have HS := hide (esc_nil hE2)
    clear hT hE hE2
    go_wp2
    refine wp_loop_rounds 1 ?_
    rw [rounds_succ]
    go_wp2_with fail
    refine (dec_empty _ _ _ _ HS.out).mono ?_; rintro e w4 ⟨rfl, rfl⟩
    go_wp2
    go_ret
    exact ⟨rfl, hbel⟩
  · rw [List.length_append] at hcap ⊢
    have HCELL := hide hcell
    have HL := hide (Plain.escL_len s.data.toList)
    have HW : Hid (∀ i (hi : i < l.length), w3.cell? ⟨w1.heap.size, i, none⟩ = some (.int .u8 (l[i].toNat : Int))) := fun i hi => by
      have := own_cells HOWN3.out i hi
      rwa [Addr.add_lit, Nat.zero_add] at this
    have HO : Hid (∀ i (hi : i < l.length), w3.cell? ⟨g, i, none⟩ = some (.int .u8 (l[i].toNat : Int))) := fun i hi => by
      rw [HCELL.out i (by rw [List.length_append]; omega), List.getElem_append_left hi]
    have HZ := hide (fun (h : (Plain.escL s.data.toList).length = 0) => esc_nil (List.eq_nil_of_length_eq_zero h))
    have HR : Hid (∀ q i (hi : i < (Plain.escL s.data.toList).length), (w3.drewN q).cell? ⟨g, l.length + i, none⟩ = some (.int .u8 ((Plain.escL s.data.toList)[i].toNat : Int))) := fun q i hi => by
      have : (w3.drewN q).cell? ⟨g, l.length + i, none⟩ = w3.cell? ⟨g, l.length + i, none⟩ := by simp
      rw [this, HCELL.out (l.length + i) (by rw [List.length_append]; omega), List.getElem_append_right (by omega)]
      simp
    have HD : Hid (∀ q cap', Calls Try.prog 11 #[.slice (some ⟨g, l.length, none⟩) (Plain.escL s.data.toList).length cap', .string s] (w3.drewN q) fun e w' => e = .returned (.bool true) ∧ w' = w3.drewN q) :=
      fun q cap' => dec_any g l.length _ cap' s (w3.drewN q) hs rfl (HR.out q)
    have hN : (Plain.escL s.data.toList).length ≤ 6291456 := by have := HL.out; rw [Plain.len_list] at this; omega
    clear hT hcell HCELL HOWN3 HR HL
    generalize (Plain.escL s.data.toList).length = N at *
    have d4 : decide ((l.length : Int) + (N : Int) < (l.length : Int)) = false := decide_eq_false (by omega)
    go_wp2
    go_loopw [7] (fun i wr => ∃ k : Nat, k ≤ l.length ∧ i = .int .i64 k ∧ ∃ q, wr = w3.drewN q) (fun i _ => l.length - (intOf i).toNat)
    case atStart => exact ⟨0, Nat.zero_le _, rfl, 0, rfl⟩
    case round =>
      obtain ⟨k, hk, rfl, q, rfl⟩ := hrel
      by_cases hlt : k < l.length
      · have co := HO.out k hlt
        have cw := HW.out k hlt
        have hk1 : (k : Int) < (l.length : Int) + (N : Int) := by omega
        have hk2 : (k : Int) < (l.length : Int) := by omega
        go_wp2
        go_quiet (fail)
        go_wp2
        go_roundw
        case rel => exact ⟨k + 1, by omega, by go_num, _, rfl⟩
        case measure => simp [intOf]; omega
      · obtain rfl : k = l.length := by omega
        have hbq : Below w'.heap.size w' (w3.drewN q) := hbel.trans ⟨rfl, rfl, rfl, Nat.le_refl _, fun _ _ => rfl⟩
        clear hbel hlt hk
        by_cases hN0 : N = 0
        · subst hN0
          have HS := hide (HZ.out rfl)
          clear HZ HD
          by_cases hc0 : cap = l.length
          · go_wp2_with fail
            refine (dec_empty _ _ _ _ HS.out).mono ?_; rintro e w4 ⟨rfl, rfl⟩
            go_wp2
            go_ret
            exact ⟨rfl, hbq⟩
          · go_wp2_with fail
            refine (dec_empty _ _ _ _ HS.out).mono ?_; rintro e w4 ⟨rfl, rfl⟩
            go_wp2
            go_ret
            exact ⟨rfl, hbq⟩
        · have hc0 : ¬ cap = l.length := by omega
          go_wp2_with fail
          refine (HD.out q (cap - l.length)).mono ?_; rintro e w4 ⟨rfl, rfl⟩
          go_wp2
          go_ret
          exact ⟨rfl, hbq⟩

set_option maxHeartbeats 400000 in
/-- Too long: the law is left at once. -/
theorem law_long (a : Option Addr) (n cap : Nat) (s : ByteArray) (w : World) (hn : n ≤ maxLen) (hs : s.size ≤ maxLen) (h : ¬ n + s.size ≤ 1048576) :
    Calls Try.prog 3 #[.slice a n cap, .string s] w fun e w' => e = .returned (.bool true) ∧ Below w.heap.size w w' := by
  have hf := fits_no h
  go_enter Try.func3, Try.ntmps3
  go_wp2_with fail
  refine (zz8 _ _ _ s _ hn hs).mono ?_; rintro e w' ⟨rfl, rfl⟩
  go_wp2
  go_ret
  exact ⟨rfl, Below.refl _ _⟩

/-- A list of numbers that fit a byte, as bytes. -/
def asBytes (zs : List Int) : List UInt8 := zs.map fun z => UInt8.ofNat z.toNat
theorem asBytes_get (zs : List Int) (h : ∀ z ∈ zs, 0 ≤ z ∧ z ≤ 255) (i : Nat) (hi : i < (asBytes zs).length) : ((asBytes zs)[i].toNat : Int) = zs.getD i 0 := by
  have hi' : i < zs.length := by simpa [asBytes] using hi
  have := h zs[i] (List.getElem_mem hi')
  simp [asBytes, List.getD, List.getElem?_eq_getElem hi']
  omega

/-- The walk, whatever slice of bytes came in. -/
theorem law_any (a0 : Option Addr) (len0 cap0 : Nat) (zs : List Int) (s : ByteArray) (w : World) (hs : s.size ≤ maxLen) (hl : len0 ≤ maxLen)
    (h : (a0 = none ∧ len0 = 0 ∧ cap0 = 0) ∨ ∃ x, a0 = some x ∧ len0 ≤ zs.length ∧ (∀ i, i < zs.length → w.cell? (x.add i) = some (.int .u8 (zs.getD i 0))) ∧ ∀ z ∈ zs, 0 ≤ z ∧ z ≤ 255) :
    Calls Try.prog 3 #[.slice a0 len0 cap0, .string s] w fun e w' => e = .returned (.bool true) ∧ Below w.heap.size w w' := by
  by_cases hb : len0 + s.size ≤ 1048576
  · rcases h with ⟨rfl, rfl, rfl⟩ | ⟨x, rfl, hle, hc, hz⟩
    · exact law_nil s w (by omega)
    · have hlen : (asBytes (zs.take len0)).length = len0 := by simp [asBytes]; omega
      have := law_some x (asBytes (zs.take len0)) cap0 s w (fun i hi => by
        have hi' : i < len0 := by omega
        rw [hc i (by omega), asBytes_get _ (fun z hz' => hz z (List.mem_of_mem_take hz')) i hi]
        simp [List.getD, List.getElem?_take, hi']) (by omega)
      rw [hlen] at this
      exact this
  · exact law_long a0 len0 cap0 s w hl hs hb
end Go.Proofs.Qxb6600192a.Esc
