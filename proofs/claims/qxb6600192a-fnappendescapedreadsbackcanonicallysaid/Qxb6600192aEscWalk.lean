import Derived.Test.Qxb6600192aClone
namespace Go.Proofs.Qxb6600192a.Esc
open Go.ChangeShapes Go.WideShapes Go.ChangeAt Go.RowKit
set_option linter.unusedVariables false
set_option linter.unusedSimpArgs false

theorem Tr.next {w0 w : World} {r : Option Nat} {v : Value} {l : List UInt8} {s : ByteArray} {k : Nat} (hk : k < s.size) {m : List UInt8} (h : Tr w0 r w v (l ++ Plain.escT s k ++ m)) (he : Plain.esc s[k] = m) : Tr w0 r w v (l ++ Plain.escT s (k + 1)) := by
  rw [Plain.escT_succ s k hk, he, ← List.append_assoc]
  exact h
/-- The two digits of a byte, out of the text's own table. -/
theorem table (d : Nat) (h : d < 16) : ((⟨#[48, 49, 50, 51, 52, 53, 54, 55, 56, 57, 97, 98, 99, 100, 101, 102]⟩ : ByteArray)[d]'h) = Plain.hexd d := by
  have : ∀ d : Fin 16, ((⟨#[48, 49, 50, 51, 52, 53, 54, 55, 56, 57, 97, 98, 99, 100, 101, 102]⟩ : ByteArray)[d.val]'d.isLt) = Plain.hexd d.val := by decide
  exact this ⟨d, h⟩
theorem idx_hex (d : Nat) (h : d < 16) (kd : IntKind) (z : Int) (hz : z = (d : Int)) (w : World) :
    (Instr.index 9 (.string ⟨#[48, 49, 50, 51, 52, 53, 54, 55, 56, 57, 97, 98, 99, 100, 101, 102]⟩) (.int kd z)).run Try.prog w = .ok (.int .u8 ((Plain.hexd d).toNat : Int)) w := by
  subst hz
  rw [run_index_string w 9 _ kd _ Try.underlying9, dif_pos ⟨by omega, by show (d : Int) < 16; omega⟩]
  simp only [Int.toNat_natCast]
  rw [table d h]
theorem idx_hi (c : UInt8) (w : World) : (Instr.index 9 (.string ⟨#[48, 49, 50, 51, 52, 53, 54, 55, 56, 57, 97, 98, 99, 100, 101, 102]⟩) (.int .u8 ((c.toNat : Int) / 16))).run Try.prog w = .ok (.int .u8 ((Plain.hexd (c.toNat / 16)).toNat : Int)) w := by
  have := UInt8.toNat_lt c
  exact idx_hex (c.toNat / 16) (by omega) .u8 _ (by omega) w
theorem idx_lo (c : UInt8) (w : World) : (Instr.index 9 (.string ⟨#[48, 49, 50, 51, 52, 53, 54, 55, 56, 57, 97, 98, 99, 100, 101, 102]⟩) (.int .u8 (bits .and .u8 (c.toNat : Int) 15))).run Try.prog w = .ok (.int .u8 ((Plain.hexd (c.toNat % 16)).toNat : Int)) w := by
  have := UInt8.toNat_lt c
  refine idx_hex (c.toNat % 16) (by omega) .u8 _ ?_ w
  have hm : bits .and .u8 (c.toNat : Int) 15 = (c.toNat : Int) % 16 := bits_mask .u8 8 (by decide) wraps_u8 4 (by decide) (c.toNat : Int) (by omega) (by omega)
  rw [hm]
  omega
theorem cells_two (w : World) (a b : UInt8) : ∀ j u, (bc [a, b])[j]? = some u → (w.alloc (.cells #[.int .u8 (a.toNat : Int), .int .u8 (b.toNat : Int)] 5)).cell? ((⟨w.heap.size, 0, none⟩ : Addr).add j) = some u := by
  intro j u hu
  match j, hu with
  | 0, hu => simp [bc] at hu; subst hu; simp [Addr.add]
  | 1, hu => simp [bc] at hu; subst hu; simp [Addr.add]
  | j + 2, hu => simp [bc] at hu
theorem cells_one (w : World) (a : UInt8) : ∀ j u, (bc [a])[j]? = some u → (w.alloc (.cells #[.int .u8 (a.toNat : Int)] 5)).cell? ((⟨w.heap.size, 0, none⟩ : Addr).add j) = some u := by
  intro j u hu
  match j, hu with
  | 0, hu => simp [bc] at hu; subst hu; simp [Addr.add]
  | j + 1, hu => simp [bc] at hu

set_option maxHeartbeats 4000000 in
theorem esc_any (v : Value) (l : List UInt8) (s : ByteArray) (r : Option Nat) (w : World) (hT : Tr w r w v l) (hb : l.length + 6 * s.size ≤ 1073741824) :
    Calls Try.prog 23 #[v, .string s] w fun e w' => ∃ v', e = .returned v' ∧ Tr w r w' v' (l ++ Plain.escL s.data.toList) := by
  go_enter Try.func23, Try.ntmps23
  go_wp2
  go_loopw [0, 5] (fun b i wr => ∃ k : Nat, k ≤ s.size ∧ i = .int .i64 k ∧ Tr w r wr b (l ++ Plain.escT s k)) (fun _ i _ => s.size - (intOf i).toNat)
  case atStart => exact ⟨0, Nat.zero_le _, rfl, by rw [Plain.escT_zero, List.append_nil]; exact hT⟩
  case round =>
    obtain ⟨k, hk, rfl, hR⟩ := hrel
    have hlen : (l ++ Plain.escT s k).length ≤ l.length + 6 * k := by
      have := Plain.escT_len s k
      rw [List.length_append]; omega
    clear hT
    by_cases hlt : k < s.size
    · rcases Plain.ways s[k] with h | h | h | h | h | h | h | h | h
      · have HE := hide (Plain.esc_two (.inl h))
        have b34 : ((s[k].toNat : Int) == 34) = true := beq_iff_eq.2 h
        clear h
        go_wp2_with (at_builtin; refine wpList_slice _ rfl (.tmp 41) (.tmp 43) rfl _ (l ++ Plain.escT s k) [92, s[k]] rfl (hR.alloc _) ⟨wr.heap.size, 0, none⟩ 2 2 rfl rfl (cells_two wr 92 s[k]) (by simp only [List.length_cons, List.length_nil]; omega) ?_; intro v2 w2 hT2)
        have R := Tr.next hlt hT2 HE.out
        clear hT2 hR
        go_roundw
        case rel => exact ⟨k + 1, by omega, by go_num, R⟩
        case measure => simp [intOf]; omega
      · have HE := hide (Plain.esc_two (.inr h))
        have b34 : ((s[k].toNat : Int) == 34) = false := beq_eq_false_iff_ne.2 (by omega)
        have b92 : ((s[k].toNat : Int) == 92) = true := beq_iff_eq.2 h
        clear h
        go_wp2_with (at_builtin; refine wpList_slice _ rfl (.tmp 41) (.tmp 43) rfl _ (l ++ Plain.escT s k) [92, s[k]] rfl (hR.alloc _) ⟨wr.heap.size, 0, none⟩ 2 2 rfl rfl (cells_two wr 92 s[k]) (by simp only [List.length_cons, List.length_nil]; omega) ?_; intro v2 w2 hT2)
        have R := Tr.next hlt hT2 HE.out
        clear hT2 hR
        go_roundw
        case rel => exact ⟨k + 1, by omega, by go_num, R⟩
        case measure => simp [intOf]; omega
      · have HE := hide (Plain.esc_8 h)
        have b34 : ((s[k].toNat : Int) == 34) = false := beq_eq_false_iff_ne.2 (by omega)
        have b92 : ((s[k].toNat : Int) == 92) = false := beq_eq_false_iff_ne.2 (by omega)
        have b8 : ((s[k].toNat : Int) == 8) = true := beq_iff_eq.2 h
        clear h
        go_wp2_with (at_builtin; refine wpList_str _ rfl (.tmp 47) (.const (.string ⟨#[92, 98]⟩)) rfl _ (l ++ Plain.escT s k) rfl hR ⟨#[92, 98]⟩ rfl (by show _ + 2 ≤ _; omega) ?_; intro v2 w2 hT2)
        have R := Tr.next hlt hT2 HE.out
        clear hT2 hR
        go_roundw
        case rel => exact ⟨k + 1, by omega, by go_num, R⟩
        case measure => simp [intOf]; omega
      · have HE := hide (Plain.esc_9 h)
        have b34 : ((s[k].toNat : Int) == 34) = false := beq_eq_false_iff_ne.2 (by omega)
        have b92 : ((s[k].toNat : Int) == 92) = false := beq_eq_false_iff_ne.2 (by omega)
        have b8 : ((s[k].toNat : Int) == 8) = false := beq_eq_false_iff_ne.2 (by omega)
        have b9 : ((s[k].toNat : Int) == 9) = true := beq_iff_eq.2 h
        clear h
        go_wp2_with (at_builtin; refine wpList_str _ rfl (.tmp 51) (.const (.string ⟨#[92, 116]⟩)) rfl _ (l ++ Plain.escT s k) rfl hR ⟨#[92, 116]⟩ rfl (by show _ + 2 ≤ _; omega) ?_; intro v2 w2 hT2)
        have R := Tr.next hlt hT2 HE.out
        clear hT2 hR
        go_roundw
        case rel => exact ⟨k + 1, by omega, by go_num, R⟩
        case measure => simp [intOf]; omega
      · have HE := hide (Plain.esc_10 h)
        have b34 : ((s[k].toNat : Int) == 34) = false := beq_eq_false_iff_ne.2 (by omega)
        have b92 : ((s[k].toNat : Int) == 92) = false := beq_eq_false_iff_ne.2 (by omega)
        have b8 : ((s[k].toNat : Int) == 8) = false := beq_eq_false_iff_ne.2 (by omega)
        have b9 : ((s[k].toNat : Int) == 9) = false := beq_eq_false_iff_ne.2 (by omega)
        have b10 : ((s[k].toNat : Int) == 10) = true := beq_iff_eq.2 h
        clear h
        go_wp2_with (at_builtin; refine wpList_str _ rfl (.tmp 55) (.const (.string ⟨#[92, 110]⟩)) rfl _ (l ++ Plain.escT s k) rfl hR ⟨#[92, 110]⟩ rfl (by show _ + 2 ≤ _; omega) ?_; intro v2 w2 hT2)
        have R := Tr.next hlt hT2 HE.out
        clear hT2 hR
        go_roundw
        case rel => exact ⟨k + 1, by omega, by go_num, R⟩
        case measure => simp [intOf]; omega
      · have HE := hide (Plain.esc_12 h)
        have b34 : ((s[k].toNat : Int) == 34) = false := beq_eq_false_iff_ne.2 (by omega)
        have b92 : ((s[k].toNat : Int) == 92) = false := beq_eq_false_iff_ne.2 (by omega)
        have b8 : ((s[k].toNat : Int) == 8) = false := beq_eq_false_iff_ne.2 (by omega)
        have b9 : ((s[k].toNat : Int) == 9) = false := beq_eq_false_iff_ne.2 (by omega)
        have b10 : ((s[k].toNat : Int) == 10) = false := beq_eq_false_iff_ne.2 (by omega)
        have b12 : ((s[k].toNat : Int) == 12) = true := beq_iff_eq.2 h
        clear h
        go_wp2_with (at_builtin; refine wpList_str _ rfl (.tmp 59) (.const (.string ⟨#[92, 102]⟩)) rfl _ (l ++ Plain.escT s k) rfl hR ⟨#[92, 102]⟩ rfl (by show _ + 2 ≤ _; omega) ?_; intro v2 w2 hT2)
        have R := Tr.next hlt hT2 HE.out
        clear hT2 hR
        go_roundw
        case rel => exact ⟨k + 1, by omega, by go_num, R⟩
        case measure => simp [intOf]; omega
      · have HE := hide (Plain.esc_13 h)
        have b34 : ((s[k].toNat : Int) == 34) = false := beq_eq_false_iff_ne.2 (by omega)
        have b92 : ((s[k].toNat : Int) == 92) = false := beq_eq_false_iff_ne.2 (by omega)
        have b8 : ((s[k].toNat : Int) == 8) = false := beq_eq_false_iff_ne.2 (by omega)
        have b9 : ((s[k].toNat : Int) == 9) = false := beq_eq_false_iff_ne.2 (by omega)
        have b10 : ((s[k].toNat : Int) == 10) = false := beq_eq_false_iff_ne.2 (by omega)
        have b12 : ((s[k].toNat : Int) == 12) = false := beq_eq_false_iff_ne.2 (by omega)
        have b13 : ((s[k].toNat : Int) == 13) = true := beq_iff_eq.2 h
        clear h
        go_wp2_with (at_builtin; refine wpList_str _ rfl (.tmp 63) (.const (.string ⟨#[92, 114]⟩)) rfl _ (l ++ Plain.escT s k) rfl hR ⟨#[92, 114]⟩ rfl (by show _ + 2 ≤ _; omega) ?_; intro v2 w2 hT2)
        have R := Tr.next hlt hT2 HE.out
        clear hT2 hR
        go_roundw
        case rel => exact ⟨k + 1, by omega, by go_num, R⟩
        case measure => simp [intOf]; omega
      · have HE := hide (Plain.esc_ctl h)
        obtain ⟨h0, h1, h2, h3, h4, h5⟩ := h
        have b34 : ((s[k].toNat : Int) == 34) = false := beq_eq_false_iff_ne.2 (by omega)
        have b92 : ((s[k].toNat : Int) == 92) = false := beq_eq_false_iff_ne.2 (by omega)
        have b8 : ((s[k].toNat : Int) == 8) = false := beq_eq_false_iff_ne.2 (by omega)
        have b9 : ((s[k].toNat : Int) == 9) = false := beq_eq_false_iff_ne.2 (by omega)
        have b10 : ((s[k].toNat : Int) == 10) = false := beq_eq_false_iff_ne.2 (by omega)
        have b12 : ((s[k].toNat : Int) == 12) = false := beq_eq_false_iff_ne.2 (by omega)
        have b13 : ((s[k].toNat : Int) == 13) = false := beq_eq_false_iff_ne.2 (by omega)
        clear h1 h2 h3 h4 h5
        have i1 := fun w => idx_hi s[k] w
        have i2 := fun w => idx_lo s[k] w
        rcases h0 with h0 | h0
        · have d32 : decide ((s[k].toNat : Int) < 32) = true := decide_eq_true h0
          clear h0
          go_wp2_with (at_builtin; refine wpList_str _ rfl (.tmp 23) (.const (.string ⟨#[92, 117, 48, 48]⟩)) rfl _ (l ++ Plain.escT s k) rfl hR ⟨#[92, 117, 48, 48]⟩ rfl (by show _ + 4 ≤ _; omega) ?_; intro v2 w2 hT2)
          go_region_law (refine step_slice rfl (.tmp 25) (.tmp 32) rfl v2 (l ++ Plain.escT s k ++ [92, 117, 48, 48]) [Plain.hexd (s[k].toNat / 16), Plain.hexd (s[k].toNat % 16)] rfl (hT2.alloc _).drew ⟨w2.heap.size, 0, none⟩ 2 2 rfl rfl (fun j u hu => cells_two w2 _ _ j u hu) (by simp only [List.length_append, List.length_cons, List.length_nil] at hlen ⊢; omega) ?_; intro v3 w3 hT3)
          all_goals
            have R := Tr.next hlt (by rw [List.append_assoc] at hT3; exact hT3) HE.out
            clear hT3 hT2 hR i1 i2
            go_wp2
            go_roundw
            case rel => exact ⟨k + 1, by omega, by go_num, R⟩
            case measure => simp [intOf]; omega
        · have d32 : decide ((s[k].toNat : Int) < 32) = false := decide_eq_false (by omega)
          have b127 : ((s[k].toNat : Int) == 127) = true := beq_iff_eq.2 h0
          clear h0
          go_wp2_with (at_builtin; refine wpList_str _ rfl (.tmp 23) (.const (.string ⟨#[92, 117, 48, 48]⟩)) rfl _ (l ++ Plain.escT s k) rfl hR ⟨#[92, 117, 48, 48]⟩ rfl (by show _ + 4 ≤ _; omega) ?_; intro v2 w2 hT2)
          go_region_law (refine step_slice rfl (.tmp 25) (.tmp 32) rfl v2 (l ++ Plain.escT s k ++ [92, 117, 48, 48]) [Plain.hexd (s[k].toNat / 16), Plain.hexd (s[k].toNat % 16)] rfl (hT2.alloc _).drew ⟨w2.heap.size, 0, none⟩ 2 2 rfl rfl (fun j u hu => cells_two w2 _ _ j u hu) (by simp only [List.length_append, List.length_cons, List.length_nil] at hlen ⊢; omega) ?_; intro v3 w3 hT3)
          all_goals
            have R := Tr.next hlt (by rw [List.append_assoc] at hT3; exact hT3) HE.out
            clear hT3 hT2 hR i1 i2
            go_wp2
            go_roundw
            case rel => exact ⟨k + 1, by omega, by go_num, R⟩
            case measure => simp [intOf]; omega
      · have HE := hide (Plain.esc_raw h)
        obtain ⟨h1, h2, h3, h4⟩ := h
        have b34 : ((s[k].toNat : Int) == 34) = false := beq_eq_false_iff_ne.2 (by omega)
        have b92 : ((s[k].toNat : Int) == 92) = false := beq_eq_false_iff_ne.2 (by omega)
        have b8 : ((s[k].toNat : Int) == 8) = false := beq_eq_false_iff_ne.2 (by omega)
        have b9 : ((s[k].toNat : Int) == 9) = false := beq_eq_false_iff_ne.2 (by omega)
        have b10 : ((s[k].toNat : Int) == 10) = false := beq_eq_false_iff_ne.2 (by omega)
        have b12 : ((s[k].toNat : Int) == 12) = false := beq_eq_false_iff_ne.2 (by omega)
        have b13 : ((s[k].toNat : Int) == 13) = false := beq_eq_false_iff_ne.2 (by omega)
        have b127 : ((s[k].toNat : Int) == 127) = false := beq_eq_false_iff_ne.2 (by omega)
        have d32 : decide ((s[k].toNat : Int) < 32) = false := decide_eq_false (by omega)
        clear h1 h2 h3 h4
        go_wp2_with (at_builtin; refine wpList_slice _ rfl (.tmp 34) (.tmp 36) rfl _ (l ++ Plain.escT s k) [s[k]] rfl (hR.alloc _) ⟨wr.heap.size, 0, none⟩ 1 1 rfl rfl (cells_one wr s[k]) (by simp only [List.length_cons, List.length_nil]; omega) ?_; intro v2 w2 hT2)
        have R := Tr.next hlt hT2 HE.out
        clear hT2 hR
        go_roundw
        case rel => exact ⟨k + 1, by omega, by go_num, R⟩
        case measure => simp [intOf]; omega
    · have hE := hide (Plain.escT_all s k (by omega))
      go_wp2
      go_ret
      exact ⟨_, rfl, by rw [← hE.out]; exact hR⟩
end Go.Proofs.Qxb6600192a.Esc
