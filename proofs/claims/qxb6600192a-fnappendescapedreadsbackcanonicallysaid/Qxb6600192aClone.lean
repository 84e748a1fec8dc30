import Derived.Test.Qxb6600192aTrack
namespace Go.Proofs.Qxb6600192a.Esc
open Go.ChangeShapes Go.WideShapes Go.ChangeAt Go.RowKit
set_option linter.unusedVariables false
set_option linter.unusedSimpArgs false

theorem cell_lt {w : World} {a : Addr} {v : Value} (h : w.cell? a = some v) : a.block < w.heap.size := World.block_lt_of_cell? w a h

/-- The new row after k rounds: k bytes are copied, the rest is zero. -/
def fillTo (l : List UInt8) (k : Nat) : List Value := bc (l.take k) ++ List.replicate (l.length - k) (Value.int .u8 0)
theorem fillTo_zero (l : List UInt8) : fillTo l 0 = List.replicate l.length (Value.int .u8 0) := by simp [fillTo, bc]
theorem fillTo_all (l : List UInt8) (k : Nat) (h : l.length ≤ k) : fillTo l k = bc l := by
  simp [fillTo, List.take_of_length_le h, show l.length - k = 0 by omega]
theorem fillTo_len (l : List UInt8) (k : Nat) (h : k ≤ l.length) : (fillTo l k).length = l.length := by
  simp [fillTo, bc_len]; omega
theorem fillTo_set (l : List UInt8) (k : Nat) (h : k < l.length) : (fillTo l k).set k (.int .u8 (l[k].toNat : Int)) = fillTo l (k + 1) := by
  unfold fillTo
  have hk : (bc (l.take k)).length = k := by rw [bc_len, List.length_take]; omega
  rw [List.set_append_right _ _ (by omega), hk, Nat.sub_self, show l.length - k = (l.length - (k + 1)) + 1 by omega, List.replicate_succ, List.set_cons_zero,
    List.take_succ_eq_append_getElem h, bc_app, List.append_assoc]
  rfl

set_option maxHeartbeats 400000 in
theorem clone_nil (w : World) : Calls Try.prog 9 #[.slice none 0 0] w fun e w' => e = .returned (.slice none 0 0) ∧ w' = w := by
  have q22 := fun (w : World) (a : Option Addr) (n c n' c' : Nat) => Lib.run_eql_slice_nil (P := Try.prog) w 22 _ a n c n' c' Try.underlying22
  go_enter Try.func9, Try.ntmps9
  go_wp2
  go_ret
  exact ⟨rfl, rfl⟩

set_option maxHeartbeats 1000000 in
theorem clone_some (x : Addr) (l : List UInt8) (cap : Nat) (w : World) (hc : ∀ i (hi : i < l.length), w.cell? (x.add i) = some (.int .u8 (l[i].toNat : Int))) (hb : l.length ≤ 1048576) :
    Calls Try.prog 9 #[.slice (some x) l.length cap] w fun e w' => e = .returned (.slice (some ⟨w.heap.size, 0, none⟩) l.length l.length) ∧
      w'.ownsRow w.heap.size 5 1 (.slice (some ⟨w.heap.size, 0, none⟩) l.length l.length) l.length (bc l) ∧ w.grownBy w' none := by
  obtain ⟨i0, hi, hz0, hz1, hz2⟩ := info_parts info5
  have q22 := fun (w : World) (a : Option Addr) (n c n' c' : Nat) => Lib.run_eql_slice_nil (P := Try.prog) w 22 _ a n c n' c' Try.underlying22
  have HC := hide hc; clear hc
  go_enter Try.func9, Try.ntmps9
  go_wp2_with (at_make; refine wpList_make_full _ rfl _ _ 22 rfl w.heap.size 5 i0 (.int .u8 0) 1 Try.underlying22 hi hz0 hz1 _ _ _ _ l.length rfl rfl (by omega) (by omega) (by rw [hz2]; omega) (by unfold maxLen; omega) (Nat.le_refl _) ?_; intro w1 hown1 hgrow1)
  rw [Nat.mul_one, show (Value.int IntKind.u8 0).cells = #[Value.int .u8 0] from rfl, toList_madeCells_one, ← fillTo_zero] at hown1
  go_loopw [4] (fun i wr => ∃ k : Nat, k ≤ l.length ∧ i = .int .i64 k ∧ wr.ownsRow w.heap.size 5 1 (.slice (some ⟨w.heap.size, 0, none⟩) l.length l.length) l.length (fillTo l k) ∧ w.grownBy wr none)
    (fun i _ => l.length - (intOf i).toNat)
  case atStart => exact ⟨0, Nat.zero_le _, rfl, hown1, hgrow1⟩
  case round =>
    obtain ⟨k, hk, rfl, hown, hgrow⟩ := hrel
    clear hown1 hgrow1
    by_cases hlt : k < l.length
    · have hcw := HC.out k hlt
      have hcx : wr.cell? (x.add k) = some (.int .u8 (l[k].toNat : Int)) := hgrow.cell hcw (by simp)
      have hcy : wr.cell? ⟨w.heap.size, k, none⟩ = some ((fillTo l k)[k]'(by rw [fillTo_len l k hk]; exact hlt)) := by
        rw [hown.cellAt k (by omega)]; simp
      have hfy : wr.frozen? ⟨w.heap.size, k, none⟩ = false := hown.frozenAt k
      have R := hown.stored k (.int .u8 (l[k].toNat : Int))
      rw [fillTo_set l k hlt] at R
      have hg2 := grown_trans hgrow R.2 (fun j hj => .inr (by injection hj with hj; omega))
      have R1 := R.1
      generalize (fillTo l k)[k]'(by rw [fillTo_len l k hk]; exact hlt) = old at hcy
      clear R hcw hown hgrow
      go_wp2
      go_roundw
      case rel => exact ⟨k + 1, by omega, by go_num, R1, hg2⟩
      case measure => simp [intOf]; omega
    · rw [fillTo_all l k (by omega)] at hown
      go_wp2
      go_ret
      exact ⟨rfl, hown, hgrow⟩
end Go.Proofs.Qxb6600192a.Esc
