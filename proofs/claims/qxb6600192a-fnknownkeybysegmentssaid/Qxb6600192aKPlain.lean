import Derived.Test.Qxb6600192aPlain
/-
  PLAIN LAWS on dotted keys: no Go in sight. A text split at its dots; when one text's segments lead another's.
-/
namespace Go.Proofs.Qxb6600192a.Plain

/-! ### splitting at dots -/
/-- The segments, 'acc' being what of the running one is read already. -/
def splitGo (acc : List UInt8) : List UInt8 → List (List UInt8)
  | [] => [acc]
  | c :: r => if (c.toNat : Int) = 46 then acc :: splitGo [] r else splitGo (acc ++ [c]) r
def splitL (l : List UInt8) : List (List UInt8) := splitGo [] l
theorem splitGo_nil (acc : List UInt8) : splitGo acc [] = [acc] := rfl
theorem splitGo_dot {acc : List UInt8} {c : UInt8} (r : List UInt8) (h : (c.toNat : Int) = 46) : splitGo acc (c :: r) = acc :: splitGo [] r := by
  simp only [splitGo, if_pos h]
theorem splitGo_other {acc : List UInt8} {c : UInt8} (r : List UInt8) (h : ¬ (c.toNat : Int) = 46) : splitGo acc (c :: r) = splitGo (acc ++ [c]) r := by
  simp only [splitGo, if_neg h]
theorem splitGo_len (acc l : List UInt8) : 1 ≤ (splitGo acc l).length ∧ (splitGo acc l).length ≤ l.length + 1 := by
  induction l generalizing acc with
  | nil => simp [splitGo]
  | cons c r ih =>
    by_cases h : (c.toNat : Int) = 46
    · rw [splitGo_dot r h]
      have := ih []
      simp only [List.length_cons]
      omega
    · rw [splitGo_other r h]
      have := ih (acc ++ [c])
      simp only [List.length_cons]
      omega

/-- 'key' leads 'k' up to its end or up to a dot. -/
def leads : List UInt8 → List UInt8 → Bool
  | [], [] => true
  | [], c :: _ => decide ((c.toNat : Int) = 46)
  | _ :: _, [] => false
  | a :: x, b :: y => decide (a = b) && leads x y

/-- A list of segments leads another. -/
def pre : List (List UInt8) → List (List UInt8) → Bool
  | [], _ => true
  | _ :: _, [] => false
  | a :: x, b :: y => decide (a = b) && pre x y

/-- The heads of two running splits: they agree only if what was read agrees. -/
theorem head_len (acc : List UInt8) (l : List UInt8) : ∃ h t, splitGo acc l = h :: t ∧ ∃ u, h = acc ++ u := by
  induction l generalizing acc with
  | nil => exact ⟨acc, [], rfl, [], by simp⟩
  | cons c r ih =>
    by_cases h : (c.toNat : Int) = 46
    · exact ⟨acc, splitGo [] r, splitGo_dot r h, [], by simp⟩
    · obtain ⟨x, y, e, u, hu⟩ := ih (acc ++ [c])
      exact ⟨x, y, by rw [splitGo_other r h, e], c :: u, by rw [hu]; simp⟩
theorem pre_single (acc l : List UInt8) : pre [acc] (splitGo acc l) = match l with | [] => true | c :: _ => decide ((c.toNat : Int) = 46) := by
  cases l with
  | nil => simp [splitGo, pre]
  | cons c r =>
    by_cases h : (c.toNat : Int) = 46
    · rw [splitGo_dot r h]; simp [pre, h]
    · rw [splitGo_other r h]
      obtain ⟨x, y, e, u, hu⟩ := head_len (acc ++ [c]) r
      rw [e]
      have hne : ¬ acc = x := by
        intro he
        have := congrArg List.length (he.trans hu)
        simp at this
      simp [pre, hne, h]
/-- THE LAW: the segments of key lead those of k exactly when key leads k up to its end or up to a dot. -/
theorem pre_split (acc x y : List UInt8) : pre (splitGo acc x) (splitGo acc y) = leads x y := by
  induction x generalizing acc y with
  | nil =>
    rw [splitGo_nil, pre_single]
    cases y <;> rfl
  | cons a x ih =>
    cases y with
    | nil =>
      rw [splitGo_nil]
      by_cases h : (a.toNat : Int) = 46
      · rw [splitGo_dot x h]
        obtain ⟨p, q, e, _⟩ := head_len [] x
        rw [e]
        simp [pre, leads]
      · rw [splitGo_other x h]
        obtain ⟨p, q, e, u, hu⟩ := head_len (acc ++ [a]) x
        rw [e]
        have hne : ¬ p = acc := by
          intro he
          have := congrArg List.length (he.symm.trans hu)
          simp at this
        simp [pre, leads, hne]
    | cons b y =>
      by_cases ha : (a.toNat : Int) = 46
      · by_cases hb : (b.toNat : Int) = 46
        · have hab : a = b := UInt8.toNat_inj.1 (by omega)
          rw [splitGo_dot x ha, splitGo_dot y hb]
          simp only [pre, leads, hab, decide_true, Bool.true_and]
          exact ih [] y
        · rw [splitGo_dot x ha, splitGo_other y hb]
          obtain ⟨p, q, e, u, hu⟩ := head_len (acc ++ [b]) y
          rw [e]
          have hne : ¬ acc = p := by
            intro he
            have := congrArg List.length (he.trans hu)
            simp at this
          have hab : ¬ a = b := fun e => hb (e ▸ ha)
          simp [pre, leads, hne, hab]
      · by_cases hb : (b.toNat : Int) = 46
        · rw [splitGo_other x ha, splitGo_dot y hb]
          obtain ⟨p, q, e, u, hu⟩ := head_len (acc ++ [a]) x
          rw [e]
          have hne : ¬ p = acc := by
            intro he
            have := congrArg List.length (he.symm.trans hu)
            simp at this
          have hab : ¬ a = b := fun e => ha (e ▸ hb)
          simp [pre, leads, hne, hab]
        · rw [splitGo_other x ha, splitGo_other y hb]
          by_cases hab : a = b
          · subst hab
            simp only [leads, decide_true, Bool.true_and]
            exact ih (acc ++ [a]) y
          · obtain ⟨p, q, e, u, hu⟩ := head_len (acc ++ [a]) x
            obtain ⟨p2, q2, e2, u2, hu2⟩ := head_len (acc ++ [b]) y
            rw [e, e2]
            have hne : ¬ p = p2 := by
              rw [hu, hu2]
              intro he
              simp only [List.append_assoc, List.append_cancel_left_eq, List.cons_append, List.nil_append, List.cons.injEq] at he
              exact hab he.1
            simp [pre, leads, hne, hab]

/-! ### what knownKey asks -/
/-- p leads s, byte by byte. -/
def bpre : List UInt8 → List UInt8 → Bool
  | [], _ => true
  | _ :: _, [] => false
  | a :: x, b :: y => decide (a = b) && bpre x y
theorem bpre_take (p s : List UInt8) : bpre p s = decide (p.length ≤ s.length ∧ s.take p.length = p) := by
  induction p generalizing s with
  | nil => simp [bpre]
  | cons a x ih =>
    cases s with
    | nil => simp [bpre]
    | cons b y =>
      simp only [bpre, ih, List.length_cons, List.take_succ_cons, List.cons.injEq]
      by_cases hab : a = b
      · subst hab; simp
      · simp [hab]; exact fun _ h => absurd h.symm hab
theorem leads_bpre (x y : List UInt8) : leads x y = (bpre x y && match y.drop x.length with | [] => true | c :: _ => decide ((c.toNat : Int) = 46)) := by
  induction x generalizing y with
  | nil => cases y <;> simp [leads, bpre]
  | cons a x ih =>
    cases y with
    | nil => simp [leads, bpre]
    | cons b y => simp [leads, bpre, ih, Bool.and_assoc]

end Go.Proofs.Qxb6600192a.Plain
