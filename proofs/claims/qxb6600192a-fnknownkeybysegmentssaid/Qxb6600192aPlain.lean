/-
  PLAIN LAWS over lists of bytes: no Go in sight. The escaped form of a text.
-/
namespace Go.Proofs.Qxb6600192a.Plain

/-! ### bytes of a string as a list -/
theorem drop_cons (s : ByteArray) (k : Nat) (h : k < s.size) : s.data.toList.drop k = s[k] :: s.data.toList.drop (k + 1) := by
  rw [List.drop_eq_getElem_cons (by simpa using h)]; rfl
theorem drop_end (s : ByteArray) (k : Nat) (h : s.size ≤ k) : s.data.toList.drop k = [] :=
  List.drop_eq_nil_of_le (by simpa using h)
theorem len_list (s : ByteArray) : s.data.toList.length = s.size := by simp
theorem take_succ (s : ByteArray) (k : Nat) (h : k < s.size) : s.data.toList.take (k + 1) = s.data.toList.take k ++ [s[k]] := by
  rw [List.take_succ_eq_append_getElem (by simpa using h)]; rfl

/-! ### the escaped form -/
/-- A hexadecimal digit, lower case. -/
def hexd (d : Nat) : UInt8 := UInt8.ofNat (if d < 10 then 48 + d else 87 + d)
theorem hexd_lo {d : Nat} (h : d < 10) : ((hexd d).toNat : Int) = 48 + d := by
  simp [hexd, h]; omega
theorem hexd_hi {d : Nat} (h1 : ¬ d < 10) (h2 : d < 16) : ((hexd d).toNat : Int) = 87 + d := by
  simp [hexd, h1]; omega
def esc (c : UInt8) : List UInt8 :=
  if c.toNat = 34 ∨ c.toNat = 92 then [92, c]
  else if c.toNat = 8 then [92, 98]
  else if c.toNat = 9 then [92, 116]
  else if c.toNat = 10 then [92, 110]
  else if c.toNat = 12 then [92, 102]
  else if c.toNat = 13 then [92, 114]
  else if c.toNat < 32 ∨ c.toNat = 127 then [92, 117, 48, 48, hexd (c.toNat / 16), hexd (c.toNat % 16)]
  else [c]
theorem esc_len (c : UInt8) : 1 ≤ (esc c).length ∧ (esc c).length ≤ 6 := by
  unfold esc
  repeat' split
  all_goals simp
def escL : List UInt8 → List UInt8
  | [] => []
  | c :: r => esc c ++ escL r
theorem escL_app (a b : List UInt8) : escL (a ++ b) = escL a ++ escL b := by
  induction a with
  | nil => rfl
  | cons c a ih => simp [escL, ih]
theorem escL_len (a : List UInt8) : (escL a).length ≤ 6 * a.length := by
  induction a with
  | nil => simp [escL]
  | cons c a ih =>
    have := (esc_len c).2
    simp only [escL, List.length_append, List.length_cons]
    omega
/-- The escaped form of the first k bytes. -/
def escT (s : ByteArray) (k : Nat) : List UInt8 := escL (s.data.toList.take k)
theorem escT_zero (s : ByteArray) : escT s 0 = [] := by simp [escT, escL]
theorem escT_succ (s : ByteArray) (k : Nat) (h : k < s.size) : escT s (k + 1) = escT s k ++ esc s[k] := by
  unfold escT
  rw [take_succ s k h, escL_app]
  simp [escL]
theorem escT_all (s : ByteArray) (k : Nat) (h : s.size ≤ k) : escT s k = escL s.data.toList := by
  unfold escT; rw [List.take_of_length_le (by simpa using h)]
theorem escT_len (s : ByteArray) (k : Nat) : (escT s k).length ≤ 6 * k := by
  refine Nat.le_trans (escL_len _) ?_
  have := List.length_take_le k s.data.toList
  omega
/-- The ways of 'esc', by the byte's number. -/
theorem esc_two {c : UInt8} (h : (c.toNat : Int) = 34 ∨ (c.toNat : Int) = 92) : esc c = [92, c] := by
  unfold esc; rw [if_pos (by omega)]
theorem esc_8 {c : UInt8} (h : (c.toNat : Int) = 8) : esc c = [92, 98] := by
  unfold esc; rw [if_neg (by omega), if_pos (by omega)]
theorem esc_9 {c : UInt8} (h : (c.toNat : Int) = 9) : esc c = [92, 116] := by
  unfold esc; rw [if_neg (by omega), if_neg (by omega), if_pos (by omega)]
theorem esc_10 {c : UInt8} (h : (c.toNat : Int) = 10) : esc c = [92, 110] := by
  unfold esc; rw [if_neg (by omega), if_neg (by omega), if_neg (by omega), if_pos (by omega)]
theorem esc_12 {c : UInt8} (h : (c.toNat : Int) = 12) : esc c = [92, 102] := by
  unfold esc; rw [if_neg (by omega), if_neg (by omega), if_neg (by omega), if_neg (by omega), if_pos (by omega)]
theorem esc_13 {c : UInt8} (h : (c.toNat : Int) = 13) : esc c = [92, 114] := by
  unfold esc; rw [if_neg (by omega), if_neg (by omega), if_neg (by omega), if_neg (by omega), if_neg (by omega), if_pos (by omega)]
/-- A byte that is written by its number. -/
def isCtl (c : UInt8) : Prop := ((c.toNat : Int) < 32 ∨ (c.toNat : Int) = 127) ∧ ¬ (c.toNat : Int) = 8 ∧ ¬ (c.toNat : Int) = 9 ∧ ¬ (c.toNat : Int) = 10 ∧ ¬ (c.toNat : Int) = 12 ∧ ¬ (c.toNat : Int) = 13
theorem esc_ctl {c : UInt8} (h : isCtl c) : esc c = [92, 117, 48, 48, hexd (c.toNat / 16), hexd (c.toNat % 16)] := by
  obtain ⟨h1, h2, h3, h4, h5, h6⟩ := h
  unfold esc
  rw [if_neg (by omega), if_neg (by omega), if_neg (by omega), if_neg (by omega), if_neg (by omega), if_neg (by omega), if_pos (by omega)]
/-- A byte that stands raw. -/
def isRaw (c : UInt8) : Prop := 32 ≤ (c.toNat : Int) ∧ ¬ (c.toNat : Int) = 127 ∧ ¬ (c.toNat : Int) = 34 ∧ ¬ (c.toNat : Int) = 92
theorem esc_raw {c : UInt8} (h : isRaw c) : esc c = [c] := by
  obtain ⟨h1, h2, h3, h4⟩ := h
  unfold esc
  rw [if_neg (by omega), if_neg (by omega), if_neg (by omega), if_neg (by omega), if_neg (by omega), if_neg (by omega), if_neg (by omega)]
/-- Every byte goes one of the ways. -/
theorem ways (c : UInt8) : (c.toNat : Int) = 34 ∨ (c.toNat : Int) = 92 ∨ (c.toNat : Int) = 8 ∨ (c.toNat : Int) = 9 ∨ (c.toNat : Int) = 10 ∨ (c.toNat : Int) = 12 ∨ (c.toNat : Int) = 13 ∨ isCtl c ∨ isRaw c := by
  unfold isCtl isRaw
  omega

end Go.Proofs.Qxb6600192a.Plain
