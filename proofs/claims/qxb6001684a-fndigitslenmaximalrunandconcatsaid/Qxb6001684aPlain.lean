/-
  PLAIN LAWS over lists of bytes: no Go in sight. Runs of bytes that meet a test; the end of a quoted text.
-/
namespace Go.Proofs.Qxb6001684a.Plain

/-! ### bytes of a string as a list -/
theorem drop_cons (s : ByteArray) (k : Nat) (h : k < s.size) : s.data.toList.drop k = s[k] :: s.data.toList.drop (k + 1) := by
  rw [List.drop_eq_getElem_cons (by simpa using h)]; rfl
theorem drop_end (s : ByteArray) (k : Nat) (h : s.size ≤ k) : s.data.toList.drop k = [] :=
  List.drop_eq_nil_of_le (by simpa using h)
theorem len_list (s : ByteArray) : s.data.toList.length = s.size := by simp
theorem ext_list (s : ByteArray) (a b : Nat) : (s.extract a b).data.toList = (s.data.toList.drop a).take (b - a) := by
  simp [ByteArray.data_extract, List.extract_eq_drop_take']
theorem app_list (s t : ByteArray) : (s ++ t).data.toList = s.data.toList ++ t.data.toList := by
  simp [ByteArray.data_append]

/-! ### the run of bytes at the head that meet a test -/
def dig (c : UInt8) : Bool := decide (48 ≤ (c.toNat : Int)) && decide ((c.toNat : Int) ≤ 57)
def idS (c : UInt8) : Bool := decide ((97 ≤ (c.toNat : Int) ∧ (c.toNat : Int) ≤ 122) ∨ (65 ≤ (c.toNat : Int) ∧ (c.toNat : Int) ≤ 90) ∨ (c.toNat : Int) = 95 ∨ (c.toNat : Int) = 36 ∨ 128 ≤ (c.toNat : Int))
def idn (c : UInt8) : Bool := idS c || dig c
def dot (c : UInt8) : Bool := dig c || decide ((c.toNat : Int) = 46)
def runLen (p : UInt8 → Bool) (l : List UInt8) : Nat := (l.takeWhile p).length

theorem runLen_nil (p : UInt8 → Bool) : runLen p [] = 0 := rfl
theorem runLen_yes {p : UInt8 → Bool} {c : UInt8} (l : List UInt8) (h : p c = true) : runLen p (c :: l) = runLen p l + 1 := by
  simp [runLen, h]
theorem runLen_no {p : UInt8 → Bool} {c : UInt8} (l : List UInt8) (h : p c = false) : runLen p (c :: l) = 0 := by
  simp [runLen, h]
theorem runLen_le (p : UInt8 → Bool) (l : List UInt8) : runLen p l ≤ l.length := by
  induction l with
  | nil => simp [runLen_nil]
  | cons c l ih => cases h : p c <;> simp [runLen_yes, runLen_no, h, ih]
theorem runLen_all (p : UInt8 → Bool) (l : List UInt8) : ∀ k (h : k < runLen p l), p (l[k]'(Nat.lt_of_lt_of_le h (runLen_le p l))) = true := by
  induction l with
  | nil => intro k h; simp [runLen_nil] at h
  | cons c l ih =>
    intro k h
    cases hc : p c with
    | false => simp [runLen_no l hc] at h
    | true =>
      cases k with
      | zero => simpa using hc
      | succ k => simpa using ih k (by rw [runLen_yes l hc] at h; omega)
theorem runLen_stop (p : UInt8 → Bool) (l : List UInt8) (h : runLen p l < l.length) : p l[runLen p l] = false := by
  induction l with
  | nil => simp at h
  | cons c l ih =>
    cases hc : p c with
    | false => simp [runLen_no l hc, hc]
    | true =>
      have := ih (by rw [runLen_yes l hc] at h; simpa using h)
      simpa [runLen_yes l hc] using this
theorem runLen_take (p : UInt8 → Bool) (l : List UInt8) : runLen p (l.take (runLen p l)) = runLen p l := by
  induction l with
  | nil => simp [runLen_nil]
  | cons c l ih => cases hc : p c <;> simp [runLen_no, runLen_yes, hc, ih, runLen_nil]
theorem runLen_drop (p : UInt8 → Bool) (l : List UInt8) : runLen p (l.drop (runLen p l)) = 0 := by
  induction l with
  | nil => simp [runLen_nil]
  | cons c l ih => cases hc : p c <;> simp [runLen_no, runLen_yes, hc, ih]
theorem runLen_app (p : UInt8 → Bool) (l t : List UInt8) : runLen p (l ++ t) = if runLen p l = l.length then l.length + runLen p t else runLen p l := by
  induction l with
  | nil => simp [runLen_nil]
  | cons c l ih =>
    cases hc : p c with
    | false => simp [runLen_no, hc]
    | true =>
      simp only [List.cons_append, runLen_yes, hc, ih, List.length_cons]
      by_cases h : runLen p l = l.length
      · simp [h]; omega
      · rw [if_neg h, if_neg (by omega)]
theorem runLen_mono {p q : UInt8 → Bool} (h : ∀ c, p c = true → q c = true) (l : List UInt8) : runLen p l ≤ runLen q l := by
  induction l with
  | nil => simp [runLen_nil]
  | cons c l ih =>
    cases hc : p c with
    | false => simp [runLen_no, hc]
    | true => simp [runLen_yes, hc, h c hc, ih]
theorem runLen_all_iff (p : UInt8 → Bool) (l : List UInt8) : runLen p l = l.length ↔ l.all p = true := by
  induction l with
  | nil => simp [runLen_nil]
  | cons c l ih =>
    cases hc : p c with
    | false => simp [runLen_no, hc]
    | true => simp [runLen_yes, hc, ih]


/-! ### tests of a whole text -/
def allDot (l : List UInt8) : Bool := l.all dot
def hasB (b : Int) (l : List UInt8) : Bool := l.any fun c => decide ((c.toNat : Int) = b)
theorem allDot_nil : allDot [] = true := rfl
theorem allDot_cons (c : UInt8) (l : List UInt8) : allDot (c :: l) = (dot c && allDot l) := by simp [allDot]
theorem hasB_nil (b : Int) : hasB b [] = false := rfl
theorem hasB_cons (b : Int) (c : UInt8) (l : List UInt8) : hasB b (c :: l) = (decide ((c.toNat : Int) = b) || hasB b l) := by simp [hasB]
theorem allDot_app (a b : List UInt8) : allDot (a ++ b) = (allDot a && allDot b) := by simp [allDot]
theorem dot_of_dig {c : UInt8} (h : dig c = true) : dot c = true := by simp [dot, h]
theorem allDot_of_run {l : List UInt8} (h : runLen dig l = l.length) : allDot l = true := by
  rw [runLen_all_iff, List.all_eq_true] at h
  rw [allDot, List.all_eq_true]
  exact fun c hc => dot_of_dig (h c hc)
theorem run_of_allDot {l : List UInt8} (h : allDot l = true) (hb : hasB 46 l = false) : runLen dig l = l.length := by
  rw [runLen_all_iff, List.all_eq_true]
  rw [allDot, List.all_eq_true] at h
  rw [hasB, List.any_eq_false] at hb
  intro c hc
  have h1 := h c hc
  have h2 := hb c hc
  simpa [dot, show ¬ (c.toNat : Int) = 46 by simpa using h2] using h1

/-! ### the end of a quoted text: the length up to and with the closing quote, and whether it is there -/
def cq (q : Int) : List UInt8 → Nat × Bool
  | [] => (0, false)
  | [c] => if (c.toNat : Int) = q then (1, true) else (1, false)
  | c :: d :: r =>
    if (c.toNat : Int) = q then
      if (d.toNat : Int) = q then ((cq q r).1 + 2, (cq q r).2) else (1, true)
    else if (c.toNat : Int) = 92 ∧ q ≠ 96 then ((cq q r).1 + 2, (cq q r).2)
    else ((cq q (d :: r)).1 + 1, (cq q (d :: r)).2)

theorem cq_nil (q : Int) : cq q [] = (0, false) := by simp [cq]
/-- A byte that is neither the quote nor a backslash that counts. -/
theorem cq_plain {q : Int} {c : UInt8} (r : List UInt8) (h1 : ¬ (c.toNat : Int) = q) (h2 : ¬ ((c.toNat : Int) = 92 ∧ q ≠ 96)) :
    cq q (c :: r) = ((cq q r).1 + 1, (cq q r).2) := by
  cases r with
  | nil => simp only [cq, if_neg h1]
  | cons d r => simp only [cq, if_neg h1, if_neg h2]
/-- Two quotes. -/
theorem cq_twice {q : Int} {c d : UInt8} (r : List UInt8) (h1 : (c.toNat : Int) = q) (h2 : (d.toNat : Int) = q) :
    cq q (c :: d :: r) = ((cq q r).1 + 2, (cq q r).2) := by
  simp only [cq, if_pos h1, if_pos h2]
/-- A backslash that counts, and the byte behind it. -/
theorem cq_slash {q : Int} {c d : UInt8} (r : List UInt8) (h1 : ¬ (c.toNat : Int) = q) (h2 : (c.toNat : Int) = 92 ∧ q ≠ 96) :
    cq q (c :: d :: r) = ((cq q r).1 + 2, (cq q r).2) := by
  simp only [cq, if_neg h1, if_pos h2]
theorem cq_slash_end {q : Int} {c : UInt8} (h1 : ¬ (c.toNat : Int) = q) : cq q [c] = (1, false) := by
  simp only [cq, if_neg h1]
/-- The closing quote. -/
theorem cq_close {q : Int} {c : UInt8} (r : List UInt8) (h1 : (c.toNat : Int) = q) (h2 : ∀ d ∈ r.head?, ¬ (d.toNat : Int) = q) :
    cq q (c :: r) = (1, true) := by
  cases r with
  | nil => simp only [cq, if_pos h1]
  | cons d r => simp only [cq, if_pos h1, if_neg (h2 d (by simp))]

/-- All that the laws say of 'cq', at one list, by induction on a bound of its length. -/
theorem cq_all (q : Int) : ∀ (n : Nat) (l : List UInt8), l.length ≤ n →
    (cq q l).1 ≤ l.length ∧ ((cq q l).2 = false → (cq q l).1 = l.length) ∧
    ((cq q l).2 = true → 1 ≤ (cq q l).1 ∧ (∀ c ∈ l[(cq q l).1 - 1]?, (c.toNat : Int) = q) ∧
      ∀ t : List UInt8, (∀ d ∈ t.head?, ¬ (d.toNat : Int) = q) → cq q (l.take (cq q l).1 ++ t) = ((cq q l).1, true)) := by
  intro n
  induction n with
  | zero => intro l hl; have : l = [] := List.length_eq_zero_iff.1 (by omega); subst this; simp [cq_nil]
  | succ n ih =>
    intro l hl
    match l, hl with
    | [], _ => simp [cq_nil]
    | [c], _ =>
      by_cases h1 : (c.toNat : Int) = q
      · rw [cq_close [] h1 (by simp)]
        refine ⟨by simp, by simp, fun _ => ⟨by simp, by simpa using h1, fun t ht => ?_⟩⟩
        simpa using cq_close t h1 ht
      · rw [cq_slash_end h1]; simp
    | c :: d :: r, hl =>
      have ih2 := ih r (by simp at hl; omega)
      have ih1 := ih (d :: r) (by simp at hl ⊢; omega)
      by_cases h1 : (c.toNat : Int) = q
      · by_cases h2 : (d.toNat : Int) = q
        · rw [cq_twice r h1 h2]
          refine ⟨by simp; omega, fun h => by simp; exact ih2.2.1 h, fun h => ?_⟩
          obtain ⟨a1, a2, a3⟩ := ih2.2.2 h
          refine ⟨by simp, ?_, fun t ht => ?_⟩
          · rw [show (cq q r).1 + 2 - 1 = ((cq q r).1 - 1) + 2 by omega]; simpa using a2
          · simp only [List.take_succ_cons, List.cons_append]
            rw [cq_twice _ h1 h2, a3 t ht]
        · rw [cq_close (d :: r) h1 (by simpa using h2)]
          refine ⟨by simp, by simp, fun _ => ⟨by simp, by simpa using h1, fun t ht => ?_⟩⟩
          simpa using cq_close t h1 ht
      · by_cases h3 : (c.toNat : Int) = 92 ∧ q ≠ 96
        · rw [cq_slash r h1 h3]
          refine ⟨by simp; omega, fun h => by simp; exact ih2.2.1 h, fun h => ?_⟩
          obtain ⟨a1, a2, a3⟩ := ih2.2.2 h
          refine ⟨by simp, ?_, fun t ht => ?_⟩
          · rw [show (cq q r).1 + 2 - 1 = ((cq q r).1 - 1) + 2 by omega]; simpa using a2
          · simp only [List.take_succ_cons, List.cons_append]
            rw [cq_slash _ h1 h3, a3 t ht]
        · rw [cq_plain (d :: r) h1 h3]
          refine ⟨by have := ih1.1; simp at this ⊢; omega, fun h => by have := ih1.2.1 h; simp at this ⊢; omega, fun h => ?_⟩
          obtain ⟨a1, a2, a3⟩ := ih1.2.2 h
          refine ⟨by simp, ?_, fun t ht => ?_⟩
          · rw [show (cq q (d :: r)).1 + 1 - 1 = ((cq q (d :: r)).1 - 1) + 1 by omega]; simpa using a2
          · simp only [List.take_succ_cons, List.cons_append]
            rw [cq_plain _ h1 h3, a3 t ht]

/-! ### the encoded text -/
def twice (q : Int) (c : UInt8) : Bool := decide ((c.toNat : Int) = q) || (decide ((c.toNat : Int) = 92) && decide (q ≠ 96))
def enc (q : Int) : List UInt8 → List UInt8
  | [] => []
  | c :: r => if twice q c = true then c :: c :: enc q r else c :: enc q r
theorem enc_app (q : Int) (a b : List UInt8) : enc q (a ++ b) = enc q a ++ enc q b := by
  induction a with
  | nil => rfl
  | cons c a ih => by_cases h : twice q c = true <;> simp [enc, h, ih]
theorem enc_len (q : Int) (a : List UInt8) : (enc q a).length ≤ 2 * a.length := by
  induction a with
  | nil => simp [enc]
  | cons c a ih => by_cases h : twice q c = true <;> simp [enc, h] <;> omega
theorem cq_enc (q : Int) (l x : List UInt8) : cq q (enc q l ++ x) = ((enc q l).length + (cq q x).1, (cq q x).2) := by
  induction l with
  | nil => simp [enc]
  | cons c l ih =>
    by_cases h : twice q c = true
    · simp only [enc, if_pos h, List.cons_append, List.length_cons]
      by_cases h1 : (c.toNat : Int) = q
      · rw [cq_twice _ h1 h1, ih]; simp; omega
      · rw [cq_slash _ h1 (by simpa [twice, h1] using h), ih]; simp; omega
    · simp only [enc, if_neg h, List.cons_append, List.length_cons]
      have h' : ¬ (c.toNat : Int) = q ∧ ¬ ((c.toNat : Int) = 92 ∧ q ≠ 96) := by simpa [twice] using h
      rw [cq_plain _ h'.1 h'.2, ih]; simp; omega

end Go.Proofs.Qxb6001684a.Plain
