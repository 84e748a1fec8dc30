import Derived.Test.Qxb6001684aPlain
/- The exponent at the head of a text: plain laws. -/
namespace Go.Proofs.Qxb6001684a.Plain

theorem head_no {p : UInt8 → Bool} (t : ByteArray) (ht : ∀ h : 0 < t.size, p t[0] = false) : ∀ d ∈ t.data.toList.head?, p d = false := by
  intro d hd
  by_cases h0 : 0 < t.size
  · have := drop_cons t 0 h0
    rw [List.drop_zero] at this
    rw [this] at hd
    simp at hd
    subst hd
    exact ht h0
  · have := drop_end t 0 (by omega)
    rw [List.drop_zero] at this
    rw [this] at hd
    simp at hd
theorem runLen_head_no {p : UInt8 → Bool} (t : List UInt8) (ht : ∀ d ∈ t.head?, p d = false) : runLen p t = 0 := by
  cases t with
  | nil => rfl
  | cons d t => exact runLen_no t (ht d (by simp))
theorem runLen_cut (p : UInt8 → Bool) (r t : List UInt8) (ht : ∀ d ∈ t.head?, p d = false) : runLen p (r.take (runLen p r) ++ t) = runLen p r := by
  have hle := runLen_le p r
  rw [runLen_app, runLen_take, List.length_take, Nat.min_eq_left hle, if_pos rfl, runLen_head_no t ht]
  rfl

def isE (c : UInt8) : Bool := decide ((c.toNat : Int) = 101) || decide ((c.toNat : Int) = 69)
def isS (c : UInt8) : Bool := decide ((c.toNat : Int) = 43) || decide ((c.toNat : Int) = 45)
def orNo (j n : Nat) : Nat := if 0 < n then j + n else 0
/-- The length of the exponent. -/
def expLen : List UInt8 → Nat
  | e :: c :: r => if isE e = true then (if isS c = true then orNo 2 (runLen dig r) else orNo 1 (runLen dig (c :: r))) else 0
  | _ => 0
theorem expLen_short (l : List UInt8) (h : l.length < 2) : expLen l = 0 := by
  match l, h with
  | [], _ => rfl
  | [c], _ => rfl
  | _ :: _ :: _, h => simp at h; omega
theorem two (s : ByteArray) (h : 1 < s.size) : s.data.toList = s[0] :: s[1] :: s.data.toList.drop 2 := by
  have h0 := drop_cons s 0 (by omega)
  have h1 := drop_cons s 1 h
  rw [List.drop_zero] at h0
  rw [h1] at h0
  exact h0
theorem expLen_no (s : ByteArray) (h : 1 < s.size) (he : isE s[0] = false) : expLen s.data.toList = 0 := by
  rw [two s h]; simp [expLen, he]
theorem expLen_sign (s : ByteArray) (h : 1 < s.size) (he : isE s[0] = true) (hc : isS s[1] = true) : expLen s.data.toList = orNo 2 (runLen dig (s.data.toList.drop 2)) := by
  rw [two s h]; simp [expLen, he, hc]
theorem expLen_bare (s : ByteArray) (h : 1 < s.size) (he : isE s[0] = true) (hc : isS s[1] = false) : expLen s.data.toList = orNo 1 (runLen dig (s.data.toList.drop 1)) := by
  rw [drop_cons s 1 h, two s h]; simp [expLen, he, hc]
theorem dig_not_sign {c : UInt8} (h : dig c = true) : isS c = false := by
  simp [dig] at h
  simp [isS]
  omega
/-- What the law asks of an exponent whose digits begin at k. -/
theorem exp_facts (s : ByteArray) (k : Nat) (hk : k < s.size) (hd : dig s[k] = true) :
    0 < runLen dig (s.data.toList.drop k) ∧ k + runLen dig (s.data.toList.drop k) ≤ s.size ∧
    (∀ i (hi : i < s.size), k ≤ i → i < k + runLen dig (s.data.toList.drop k) → dig s[i] = true) ∧
    (∀ h : k + runLen dig (s.data.toList.drop k) < s.size, dig (s[k + runLen dig (s.data.toList.drop k)]'h) = false) := by
  have hle := runLen_le dig (s.data.toList.drop k)
  rw [List.length_drop, len_list] at hle
  refine ⟨?_, by omega, ?_, ?_⟩
  · rw [drop_cons s k hk, runLen_yes _ hd]; omega
  · intro i hi h1 h2
    have := runLen_all dig (s.data.toList.drop k) (i - k) (by omega)
    rw [List.getElem_drop] at this
    have e : s.data.toList[k + (i - k)]'(by rw [len_list]; omega) = s[i] := by
      have : k + (i - k) = i := by omega
      simp only [this]; rfl
    rw [e] at this
    exact this
  · intro h
    have := runLen_stop dig (s.data.toList.drop k) (by rw [List.length_drop, len_list]; omega)
    rw [List.getElem_drop] at this
    exact this
theorem ext_drop (s t : ByteArray) (k m : Nat) : (s.extract 0 (k + m) ++ t).data.toList = s.data.toList.take k ++ ((s.data.toList.drop k).take m ++ t.data.toList) := by
  rw [app_list, ext_list]
  simp only [List.drop_zero, Nat.sub_zero]
  rw [List.take_add, List.append_assoc]
theorem exp_again_sign (s t : ByteArray) (h : 1 < s.size) (he : isE s[0] = true) (hc : isS s[1] = true) (hn : 0 < runLen dig (s.data.toList.drop 2))
    (ht : ∀ h : 0 < t.size, dig t[0] = false) : expLen (s.extract 0 (2 + runLen dig (s.data.toList.drop 2)) ++ t).data.toList = 2 + runLen dig (s.data.toList.drop 2) := by
  rw [ext_drop s t 2 _]
  have h2 : s.data.toList.take 2 = [s[0], s[1]] := by rw [two s h]; rfl
  rw [h2]
  simp only [List.cons_append, List.nil_append, expLen, he, hc, if_true]
  rw [runLen_cut _ _ _ (head_no t ht), orNo, if_pos hn]
theorem exp_again_bare (s t : ByteArray) (h : 1 < s.size) (he : isE s[0] = true) (hd : dig s[1] = true)
    (ht : ∀ h : 0 < t.size, dig t[0] = false) : expLen (s.extract 0 (1 + runLen dig (s.data.toList.drop 1)) ++ t).data.toList = 1 + runLen dig (s.data.toList.drop 1) := by
  rw [ext_drop s t 1 _]
  have h2 : s.data.toList.take 1 = [s[0]] := by rw [two s h]; rfl
  have h3 : runLen dig (s.data.toList.drop 1) = runLen dig (s.data.toList.drop 2) + 1 := by rw [drop_cons s 1 h, runLen_yes _ hd]
  have hcut := runLen_cut dig (s.data.toList.drop 1) t.data.toList (head_no t ht)
  have h4 : (s.data.toList.drop 1).take (runLen dig (s.data.toList.drop 1)) = s[1] :: (s.data.toList.drop 2).take (runLen dig (s.data.toList.drop 2)) := by
    rw [h3, drop_cons s 1 h, List.take_succ_cons]
  rw [h2]
  rw [h4] at hcut ⊢
  simp only [List.cons_append, List.nil_append, expLen, he, dig_not_sign hd, if_true]
  rw [if_neg (by simp)]
  rw [List.cons_append] at hcut
  rw [hcut, orNo, if_pos (by omega)]

end Go.Proofs.Qxb6001684a.Plain
