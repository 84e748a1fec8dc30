import Derived.Test.Qxb6001684aQuote
import Derived.Test.Qxb6001684aBytes
import Derived.Lib.AppendStr
import Derived.Laws.IdiomStrings
/- Facts outside the walk: the encoded body as cells. -/
namespace Go.Proofs.Qxb6001684a.Find
open Go.ChangeShapes Go.WideShapes Go.ChangeAt Go.RowKit
open Leaf (hide ret_int ret_bool)
set_option linter.unusedVariables false
set_option linter.unusedSimpArgs false

theorem info5 : (Try.prog.info? 5).map (fun i => (i.zero, i.size, i.bytes)) = some (some (.int .u8 0), 1, 1) := by kernel_rfl

/-- Bytes as cells. -/
def bc (l : List UInt8) : List Value := l.map fun b => Value.int .u8 (b.toNat : Int)
theorem bc_app (a b : List UInt8) : bc (a ++ b) = bc a ++ bc b := by simp [bc]
theorem bc_len (a : List UInt8) : (bc a).length = a.length := by simp [bc]
theorem bc_str (s : ByteArray) : Lib.strCells s = bc s.data.toList := rfl
theorem bc_one (l : List UInt8) : ∀ u ∈ bc l, u.oneCell' = true := by
  intro u hu
  simp only [bc, List.mem_map] at hu
  obtain ⟨c, _, rfl⟩ := hu
  rfl

/-- The encoded first k bytes. -/
def encT (q : Int) (s : ByteArray) (k : Nat) : List UInt8 := Plain.enc q (s.data.toList.take k)
theorem encT_zero (q : Int) (s : ByteArray) : encT q s 0 = [] := by simp [encT, Plain.enc]
theorem encT_len (q : Int) (s : ByteArray) (k : Nat) : (encT q s k).length ≤ 2 * k := by
  refine Nat.le_trans (Plain.enc_len q _) ?_
  have := List.length_take_le k s.data.toList
  omega
theorem encT_all (q : Int) (s : ByteArray) (k : Nat) (h : s.size ≤ k) : encT q s k = Plain.enc q s.data.toList := by
  unfold encT; rw [List.take_of_length_le (by simpa using h)]
theorem encT_succ (q : Int) (s : ByteArray) (k : Nat) (h : k < s.size) :
    encT q s (k + 1) = encT q s k ++ (if Plain.twice q s[k] = true then [s[k], s[k]] else [s[k]]) := by
  unfold encT
  rw [List.take_succ_eq_append_getElem (by simpa using h), Plain.enc_app]
  show _ ++ Plain.enc q [s[k]] = _
  by_cases h2 : Plain.twice q s[k] = true <;> simp [Plain.enc, h2]

/-- The slice of bytes that the call owns, read as a string. -/
theorem conv_own {w : World} {B : Nat} {g cap : Nat} {l : List UInt8} (h : w.ownsRow B 5 1 (.slice (some ⟨g, 0, none⟩) l.length cap) l.length (bc l)) :
    (convert 23 9 (.slice (some ⟨g, 0, none⟩) l.length cap)).run Try.prog w = .ok (.string ⟨l.toArray⟩) w := by
  refine run_convert_bytes_back w 23 9 5 _ cap l Try.underlying23 Try.underlying5 Try.underlying9 fun j hj => ?_
  refine h.cells (g := g) rfl j _ ?_
  simp [bc, hj]
/-- A round that appends one byte. -/
theorem one_step {q : Int} {s : ByteArray} {k B cap : Nat} {hk : k < s.size} {w wr w1 : World} {o : Obj} {g : Nat}
    (hs : encT q s (k + 1) = encT q s k ++ (if Plain.twice q s[k] = true then [s[k], s[k]] else [s[k]])) (hq : ¬ Plain.twice q s[k] = true)
    (hown1 : w1.ownsRow B 5 1 (.slice (some ⟨B, 0, none⟩) ((encT q s k).length + 1) cap) ((encT q s k).length + 1) (bc (encT q s k) ++ [.int .u8 (s[k].toNat : Int)]))
    (hgrow1 : (wr.alloc o).grownBy w1 (some B)) (hbel : Below B w wr) (hB : w.heap.size = B) :
    (Value.slice (some ⟨B, 0, none⟩) ((encT q s k).length + 1) cap = .slice (some ⟨B, 0, none⟩) (encT q s (k + 1)).length cap) ∧
    w1.ownsRow B 5 1 (.slice (some ⟨B, 0, none⟩) (encT q s (k + 1)).length cap) (encT q s (k + 1)).length (bc (encT q s (k + 1))) ∧ Below B w w1 := by
  rw [hs, if_neg hq, bc_app]
  refine ⟨by simp, by simpa [bc] using hown1, ?_⟩
  have hz := hbel.size
  exact (hbel.alloc (by omega) o).grown hgrow1 (by simp; omega) (by intro k hk; cases hk; exact Nat.le_refl _)
/-- A round that appends one byte twice. -/
theorem two_step {q : Int} {s : ByteArray} {k B cap : Nat} {hk : k < s.size} {w wr w1 w2 : World} {o o2 : Obj} {x : List Value}
    (hs : encT q s (k + 1) = encT q s k ++ (if Plain.twice q s[k] = true then [s[k], s[k]] else [s[k]])) (hq : Plain.twice q s[k] = true)
    (hgrow1 : (wr.alloc o).grownBy w1 (some B))
    (hown2 : w2.ownsRow B 5 1 (.slice (some ⟨B, 0, none⟩) ((encT q s k).length + 1 + 1) cap) ((encT q s k).length + 1 + 1) (bc (encT q s k) ++ [.int .u8 (s[k].toNat : Int)] ++ [.int .u8 (s[k].toNat : Int)]))
    (hgrow2 : (w1.alloc o2).grownBy w2 (some B)) (hbel : Below B w wr) (hB : w.heap.size = B) :
    (Value.slice (some ⟨B, 0, none⟩) ((encT q s k).length + 1 + 1) cap = .slice (some ⟨B, 0, none⟩) (encT q s (k + 1)).length cap) ∧
    w2.ownsRow B 5 1 (.slice (some ⟨B, 0, none⟩) (encT q s (k + 1)).length cap) (encT q s (k + 1)).length (bc (encT q s (k + 1))) ∧ Below B w w2 := by
  rw [hs, if_pos hq, bc_app]
  refine ⟨by simp, by simpa [bc] using hown2, ?_⟩
  have hz := hbel.size
  have h1 : Below B w w1 := (hbel.alloc (by omega) o).grown hgrow1 (by simp; omega) (by intro k hk; cases hk; exact Nat.le_refl _)
  have hz1 := h1.size
  exact (h1.alloc (by omega) o2).grown hgrow2 (by simp; omega) (by intro k hk; cases hk; exact Nat.le_refl _)
theorem arr_list (l : List UInt8) : (ByteArray.mk l.toArray).data.toList = l := rfl
theorem arr_size (l : List UInt8) : (ByteArray.mk l.toArray).size = l.length := by simp [ByteArray.size]

theorem conv_at {w : World} {B : Nat} {g cap n : Nat} (l : List UInt8) (hn : n = l.length) {xs : List Value} (hx : xs = bc l) (h : w.ownsRow B 5 1 (.slice (some ⟨g, 0, none⟩) n cap) n xs) :
    (convert 23 9 (.slice (some ⟨g, 0, none⟩) n cap)).run Try.prog w = .ok (.string ⟨l.toArray⟩) w := by
  subst hn
  subst hx
  exact conv_own h
/-- closeQuote at a list of bytes. -/
theorem cq_at (l : List UInt8) (q : Int) (n : Nat) (c : Bool) (w : World) (hs : l.length ≤ 4194304) (h : Plain.cq q l = (n, c)) :
    Calls Try.prog 11 #[.string ⟨l.toArray⟩, .int .u8 q] w fun e w' => e = .returned (.tuple #[.int .i64 n, .bool c]) ∧ w' = w := by
  have := Quote.zzCloseQuote_any ⟨l.toArray⟩ q w (by rw [arr_size]; exact hs)
  rw [arr_list, h] at this
  exact this
theorem first_call (q : Int) (s : ByteArray) : Plain.cq q (Plain.enc q s.data.toList) = ((Plain.enc q s.data.toList).length, false) := by
  have := Plain.cq_enc q s.data.toList []
  rw [List.append_nil, Plain.cq_nil] at this
  exact this
theorem second_call (q : Int) (c : UInt8) (hc : (c.toNat : Int) = q) (s t : ByteArray) (ht : ∀ h : 0 < t.size, ¬ (t[0].toNat : Int) = q) :
    Plain.cq q (Plain.enc q s.data.toList ++ c :: t.data.toList) = ((Plain.enc q s.data.toList).length + 1, true) := by
  rw [Plain.cq_enc]
  have hclose : Plain.cq q (c :: t.data.toList) = (1, true) := by
    refine Plain.cq_close _ hc ?_
    intro d hd
    by_cases h0 : 0 < t.size
    · have := Plain.drop_cons t 0 h0
      rw [List.drop_zero] at this
      rw [this] at hd
      simp at hd
      subst hd
      exact ht h0
    · have := Plain.drop_end t 0 (by omega)
      rw [List.drop_zero] at this
      rw [this] at hd
      simp at hd
  rw [hclose]
/-- A slice that is owned and not nil: its shape. -/
theorem shape {w : World} {B e size : Nat} {v : Value} {n : Nat} {xs : List Value} (h : w.ownsRow B e size v n xs) (hv : v ≠ .slice none 0 0) :
    ∃ g cap, v = .slice (some ⟨g, 0, none⟩) n cap := by
  rcases h.2 with ⟨h1, _⟩ | ⟨g, cap, cur, h1, _⟩
  · exact absurd h1 hv
  · exact ⟨g, cap, h1⟩

theorem tall {B : Nat} {a b c d : World} {r1 r2 r3 : Option Nat} {o : Obj} (h : B ≤ a.heap.size) (h1 : a.grownBy b r1) (h2 : b.grownBy c r2) (h3 : (c.alloc o).grownBy d r3) : B ≤ d.heap.size := by
  have := h1.size
  have := h2.size
  have := h3.size
  simp at this
  omega

theorem whole_len (E : List UInt8) (c : UInt8) (t : ByteArray) : E.length + 1 + t.size = (E ++ c :: t.data.toList).length := by
  simp; omega
theorem whole_cells (E : List UInt8) (c : UInt8) (t : ByteArray) : bc E ++ [Value.int .u8 (c.toNat : Int)] ++ Lib.strCells t = bc (E ++ c :: t.data.toList) := by
  rw [bc_str]; simp [bc]
theorem all_below {B : Nat} {w a b c d e : World} {r : Nat} {o : Obj} (h : Below B w a) (hr : a.heap.size = r) (h1 : a.grownBy b none) (h2 : b.grownBy c (some r)) (h3 : (c.alloc o).grownBy d (some r))
    (h4 : d.grownBy e (some r)) (hB : B ≤ a.heap.size) : Below B w e := by
  have hz1 := h1.size
  have hz2 := h2.size
  have hz3 := h3.size
  simp at hz3
  have g1 : Below B w b := h.grown h1 hB (by intro k hk; cases hk)
  have g2 : Below B w c := g1.grown h2 (by omega) (by intro k hk; cases hk; omega)
  have g3 : Below B w d := (g2.alloc (by omega) o).grown h3 (by simp; omega) (by intro k hk; cases hk; omega)
  exact g3.grown h4 (by omega) (by intro k hk; cases hk; omega)

end Go.Proofs.Qxb6001684a.Find
