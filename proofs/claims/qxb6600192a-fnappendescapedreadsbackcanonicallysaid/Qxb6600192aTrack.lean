import Derived.Test.Qxb6600192aRows
import Derived.Test.Qxb6600192aPlain
import Derived.WalkKit
import Derived.ProofKit
import Derived.WalkSpells
import Derived.Lib.AppendStr
import Derived.Deep.RegionLawGrows
/- A slice of bytes that is appended to again and again: what it holds, and which blocks of an elder world may have turned. -/
namespace Go.Proofs.Qxb6600192a.Esc
open Go.ChangeShapes Go.WideShapes Go.ChangeAt Go.RowKit
set_option linter.unusedVariables false
set_option linter.unusedSimpArgs false

theorem hide {p : Prop} (h : p) : Hid p := h
theorem ret_bool {a b : Bool} (h : a = b) : Ending.returned (.bool a) = .returned (.bool b) := by rw [h]
theorem info5 : (Try.prog.info? 5).map (fun i => (i.zero, i.size, i.bytes)) = some (some (.int .u8 0), 1, 1) := by kernel_rfl

/-- Bytes as cells. -/
def bc (l : List UInt8) : List Value := l.map fun b => Value.int .u8 (b.toNat : Int)
theorem bc_app (a b : List UInt8) : bc (a ++ b) = bc a ++ bc b := by simp [bc]
theorem bc_len (a : List UInt8) : (bc a).length = a.length := by simp [bc]
theorem bc_str (s : ByteArray) : Lib.strCells s = bc s.data.toList := rfl
theorem bc_one (l : List UInt8) : ∀ u ∈ bc l, u.oneCell' = true := by
  intro u hu
  simp only [bc, List.mem_map] at hu
  obtain ⟨c, _, rfl⟩ := hu
  rfl
theorem bc_get (l : List UInt8) (j : Nat) (h : j < l.length) : (bc l)[j]? = some (.int .u8 (l[j].toNat : Int)) := by
  simp [bc, h]

/-- 'v' holds the bytes l in w; of the world w0 nothing has turned but, perhaps, the row r; v lies in that row or in new memory. -/
structure Tr (w0 : World) (r : Option Nat) (w : World) (v : Value) (l : List UInt8) : Prop where
  own : w.ownsRow 0 5 1 v l.length (bc l)
  grown : w0.grownBy w r
  place : ∀ k, v.ownBlock = some k → some k = r ∨ w0.heap.size ≤ k

theorem grown_trans {a b c : World} {r r2 : Option Nat} (h : a.grownBy b r) (h2 : b.grownBy c r2) (hr : ∀ k, r2 = some k → some k = r ∨ a.heap.size ≤ k) : a.grownBy c r := by
  refine ⟨h2.os.trans h.os, h2.tape.trans h.tape, h2.output.trans h.output, Nat.le_trans h.size h2.size, fun k hk hn => ?_⟩
  rw [h2.block k (Nat.lt_of_lt_of_le hk h.size) ?_, h.block k hk hn]
  intro he
  rcases hr k he.symm with h' | h'
  · exact hn h'
  · omega
theorem Tr.alloc {w0 w : World} {r : Option Nat} {v : Value} {l : List UInt8} (h : Tr w0 r w v l) (o : Obj) : Tr w0 r (w.alloc o) v l :=
  ⟨h.own.alloc o, grown_trans h.grown (World.grownBy_alloc w o none) (by intro k hk; cases hk), h.place⟩
theorem Tr.drew {w0 w : World} {r : Option Nat} {v : Value} {l : List UInt8} (h : Tr w0 r w v l) : Tr w0 r w.drew v l :=
  ⟨h.own.drew, ⟨h.grown.os, h.grown.tape, h.grown.output, h.grown.size, h.grown.block⟩, h.place⟩

/-- The step that each append makes. -/
theorem Tr.step {w0 w w' : World} {r : Option Nat} {v v' : Value} {l m : List UInt8} (h : Tr w0 r w v l) (hown : w'.ownsRow 0 5 1 v' (l.length + m.length) (bc l ++ bc m)) (hg : w.grownBy w' v.ownBlock)
    (hp : v'.ownBlock = v.ownBlock ∨ ∀ k, v'.ownBlock = some k → w.heap.size ≤ k) : Tr w0 r w' v' (l ++ m) := by
  refine ⟨by rw [bc_app, List.length_append]; exact hown, grown_trans h.grown hg h.place, fun k hk => ?_⟩
  rcases hp with hp | hp
  · exact h.place k (hp ▸ hk)
  · exact .inr (Nat.le_trans h.grown.size (hp k hk))

theorem own_base {w : World} {B e size : Nat} {v : Value} {n : Nat} {xs : List Value} (h : w.ownsRow B e size v n xs) : ∀ k, v.ownBlock = some k → B ≤ k := fun k hk => (h.lt k hk).1
theorem own_zero {w : World} {B e size : Nat} {v : Value} {n : Nat} {xs : List Value} (h : w.ownsRow B e size v n xs) : w.ownsRow 0 e size v n xs := by
  refine ⟨h.1, ?_⟩
  rcases h.2 with h2 | ⟨g, cap, cur, h1, _, h3⟩
  · exact .inl h2
  · exact .inr ⟨g, cap, cur, h1, Nat.zero_le _, h3⟩

/-- append(v, x...), x a slice of m bytes. -/
theorem run_slice {w : World} {ty : TypeId} {v : Value} {l m : List UInt8} (hown : w.ownsRow 0 5 1 v l.length (bc l)) (ad : Addr) (c : Nat)
    (hc : ∀ j u, (bc m)[j]? = some u → w.cell? (ad.add j) = some u) (hb : l.length + m.length ≤ 1099511627776) :
    ∃ v' w', (Builtin.append_ #[22, 22] ty #[v, .slice (some ad) m.length c]).run Try.prog w = .ok v' w' ∧ w'.ownsRow 0 5 1 v' (l.length + m.length) (bc l ++ bc m) ∧ w.grownBy w' v.ownBlock ∧
      (v'.ownBlock = v.ownBlock ∨ ∀ k, v'.ownBlock = some k → w.heap.size ≤ k) := by
  obtain ⟨i0, hi, hz0, hz1, hz2⟩ := info_parts info5
  have hmax : l.length + m.length ≤ maxLen := by unfold maxLen; omega
  obtain ⟨v', w', hr, h2, h3, _⟩ := run_append_own (P := Try.prog) w 0 22 ty 5 i0 (.int .u8 0) 1 1 Try.underlying22 hi hz0 hz1 hz2 rfl (by decide) v l.length (bc l) hown ad m.length c (bc m) (by rw [bc_len]; omega) hc (bc_one m) hmax (by omega) (Nat.zero_le _)
  refine ⟨v', w', hr, h2, h3, ?_⟩
  rcases hown.2 with ⟨rfl, hn⟩ | ⟨g, cap, cur, rfl, _⟩
  · right
    have hl0 : l = [] := List.eq_nil_of_length_eq_zero hn
    subst hl0
    obtain ⟨v2, w2, hr2, g2, _⟩ := run_append_own (P := Try.prog) w w.heap.size 22 ty 5 i0 (.int .u8 0) 1 1 Try.underlying22 hi hz0 hz1 hz2 rfl (by decide) (.slice none 0 0) 0 [] (World.ownsRow_nil w _ _ _) ad m.length c (bc m) (by rw [bc_len]; omega) hc (bc_one m) (by simpa using hmax) (by simp at hb; omega) (Nat.le_refl _)
    rw [hr] at hr2
    injection hr2 with e1 e2
    subst e1
    exact own_base g2
  · by_cases hroom : l.length + m.length ≤ cap
    · left
      obtain ⟨w2, hr2, _⟩ := run_append_fits (P := Try.prog) w 0 22 ty 5 i0 1 Try.underlying22 hi hz1 g l.length cap (bc l) hown ad m.length c (bc m) (by rw [bc_len]; omega) hc (bc_one m) hroom
      rw [hr] at hr2
      injection hr2 with e1 e2
      subst e1
      rfl
    · right
      obtain ⟨v2, w2, hr2, g2, _⟩ := run_append_arg_grows (P := Try.prog) w 22 ty 5 i0 (.int .u8 0) 1 1 Try.underlying22 hi hz0 hz1 hz2 rfl (by decide) ⟨g, 0, none⟩ l.length cap (bc l) (by rw [bc_len]; omega) (hown.cells (g := g) rfl) ad m.length c (bc m) (by rw [bc_len]; omega) hc (by omega) hmax (by omega)
      rw [hr] at hr2
      injection hr2 with e1 e2
      subst e1
      exact own_base g2

/-- append(v, s...), s a string. -/
theorem run_str {w : World} {ty : TypeId} {v : Value} {l : List UInt8} (hown : w.ownsRow 0 5 1 v l.length (bc l)) (s : ByteArray) (hb : l.length + s.size ≤ 1099511627776) :
    ∃ v' w', (Builtin.append_ #[22, 9] ty #[v, .string s]).run Try.prog w = .ok v' w' ∧ w'.ownsRow 0 5 1 v' (l.length + s.size) (bc l ++ bc s.data.toList) ∧ w.grownBy w' v.ownBlock ∧
      (v'.ownBlock = v.ownBlock ∨ ∀ k, v'.ownBlock = some k → w.heap.size ≤ k) := by
  obtain ⟨i0, hi, hz0, hz1, hz2⟩ := info_parts info5
  have hmax : l.length + s.size ≤ maxLen := by unfold maxLen; omega
  obtain ⟨v', w', hr, h2, h3, _⟩ := Lib.run_append_own_string (P := Try.prog) w 0 22 9 ty 5 i0 Try.underlying22 Try.underlying9 hi hz0 hz1 hz2 v l.length (bc l) hown s hmax (by omega) (Nat.zero_le _)
  refine ⟨v', w', hr, h2, h3, ?_⟩
  rcases hown.2 with ⟨rfl, hn⟩ | ⟨g, cap, cur, rfl, _, hg, _, _, hcs, _⟩
  · right
    have hl0 : l = [] := List.eq_nil_of_length_eq_zero hn
    subst hl0
    obtain ⟨v2, w2, hr2, g2, _⟩ := Lib.run_append_own_string (P := Try.prog) w w.heap.size 22 9 ty 5 i0 Try.underlying22 Try.underlying9 hi hz0 hz1 hz2 (.slice none 0 0) 0 [] (World.ownsRow_nil w _ _ _) s (by simpa using hmax) (by simp at hb; omega) (Nat.le_refl _)
    rw [hr] at hr2
    injection hr2 with e1 e2
    subst e1
    exact own_base g2
  · by_cases hroom : l.length + s.size ≤ cap
    · left
      have hr2 := Lib.run_append_room_string (P := Try.prog) w 22 9 ty 5 i0 Try.underlying22 Try.underlying9 hi hz1 g l.length cap cur hg s hroom (by omega)
      rw [hr] at hr2
      injection hr2 with e1 e2
      subst e1
      rfl
    · right
      have hr2 := Lib.run_append_grow_string (P := Try.prog) w 22 9 ty 5 i0 (.int .u8 0) Try.underlying22 Try.underlying9 hi hz0 ⟨g, 0, none⟩ l.length cap (bc l) (by rw [bc_len, hz1]; omega) (hown.cells (g := g) rfl) s (by omega) (by omega) (by rw [hz2]; exact growslice_fits (by omega) (by omega))
      rw [hr] at hr2
      injection hr2 with e1 e2
      subst e1
      intro k hk
      injection hk with hk
      exact Nat.le_of_eq hk

section
variable {ops : Array Oper} {rest : List Oper} {o : Oper} {a : Act} {Q : Exit → Act → World → Prop}

/-- The operation, for the walk: a slice's bytes. -/
theorem wpList_slice (w : World) (hgd : o.guard = none) (s x : Operand) (ho : o.op = .call { callee := .builtin .append, args := #[s, x], argTypes := #[22, 22] })
    {w0 : World} {r : Option Nat} (v : Value) (l m : List UInt8) (hs : a.eval s = v) (hT : Tr w0 r w v l) (ad : Addr) (n c : Nat) (hx : a.eval x = .slice (some ad) n c) (hn : n = m.length)
    (hc : ∀ j u, (bc m)[j]? = some u → w.cell? (ad.add j) = some u) (hb : l.length + m.length ≤ 1099511627776)
    (h : ∀ v' w', Tr w0 r w' v' (l ++ m) → wpList Try.prog ops Q rest (a.put o.dst v') w') : wpList Try.prog ops Q (o :: rest) a w := by
  subst hn
  refine wpList_plain hgd fun K hK => ?_
  obtain ⟨v', w', hr, h2, h3, h4⟩ := run_slice (ty := o.type) hT.own ad c hc hb
  unfold Oper.wp execOp
  simp only [ho, resolve, invoke, builtin, Sem.run_bind, Sem.run_pure, Result.andThen_ok, List.map_toArray, List.map_cons, List.map_nil, hs, hx, hr]
  exact hK _ _ (h v' w' (hT.step h2 h3 h4))
/-- The operation, for the walk: a string's bytes. -/
theorem wpList_str (w : World) (hgd : o.guard = none) (s x : Operand) (ho : o.op = .call { callee := .builtin .append, args := #[s, x], argTypes := #[22, 9] })
    {w0 : World} {r : Option Nat} (v : Value) (l : List UInt8) (hs : a.eval s = v) (hT : Tr w0 r w v l) (t : ByteArray) (hx : a.eval x = .string t) (hb : l.length + t.size ≤ 1099511627776)
    (h : ∀ v' w', Tr w0 r w' v' (l ++ t.data.toList) → wpList Try.prog ops Q rest (a.put o.dst v') w') : wpList Try.prog ops Q (o :: rest) a w := by
  refine wpList_plain hgd fun K hK => ?_
  obtain ⟨v', w', hr, h2, h3, h4⟩ := run_str (ty := o.type) hT.own t hb
  unfold Oper.wp execOp
  simp only [ho, resolve, invoke, builtin, Sem.run_bind, Sem.run_pure, Result.andThen_ok, List.map_toArray, List.map_cons, List.map_nil, hs, hx, hr]
  exact hK _ _ (h v' w' (hT.step (by rw [Plain.len_list]; exact h2) h3 h4))
/-- The operation as one step of a region that draws its order: a slice's bytes. -/
theorem step_slice {w : World} {K : Act → World → Prop} {E : Prop} (hgd : o.guard = none) (s x : Operand) (ho : o.op = .call { callee := .builtin .append, args := #[s, x], argTypes := #[22, 22] })
    {w0 : World} {r : Option Nat} (v : Value) (l m : List UInt8) (hs : a.eval s = v) (hT : Tr w0 r w v l) (ad : Addr) (n c : Nat) (hx : a.eval x = .slice (some ad) n c) (hn : n = m.length)
    (hc : ∀ j u, (bc m)[j]? = some u → w.cell? (ad.add j) = some u) (hb : l.length + m.length ≤ 1099511627776)
    (h : ∀ v' w', Tr w0 r w' v' (l ++ m) → K (a.put o.dst v') w') : if Region.wanted o (yielded ops a.tmps) = true then Oper.wp Try.prog o a w K Q else E := by
  subst hn
  have hw : Region.wanted o (yielded ops a.tmps) = true := by simp [Region.wanted, hgd]
  rw [if_pos hw]
  obtain ⟨v', w', hr, h2, h3, h4⟩ := run_slice (ty := o.type) hT.own ad c hc hb
  unfold Oper.wp execOp
  simp only [ho, resolve, invoke, builtin, Sem.run_bind, Sem.run_pure, Result.andThen_ok, List.map_toArray, List.map_cons, List.map_nil, hs, hx, hr]
  exact h v' w' (hT.step h2 h3 h4)
end

end Go.Proofs.Qxb6600192a.Esc
