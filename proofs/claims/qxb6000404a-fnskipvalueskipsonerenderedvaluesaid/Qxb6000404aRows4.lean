import Derived.Test.Qxb6000404aSay
import Derived.Test.Qxb6000404aLists
namespace Go.Proofs.Qxb6000404a
open Go.RowKit

/-! ### The three rows and the row of the values' ends -/
theorem Try.und41 : Try.prog.underlying 41 = some (.slice 3) := by kernel_rfl
theorem Try.info3' : (Try.prog.info? 3).map (fun i => (i.zero, i.size, i.bytes)) = some (some (.int .i64 0), 1, 8) := by kernel_rfl

structure Rows4 (w3 w : World) (ov nv ev vv : Value) (out ns es vs : List Int) : Prop where
  rows : Rows3 w3 w ov nv ev out ns es
  v : Own w3.heap.size w vv w 3 .i64 vv vs
  vo : Apart vv ov
  vn : Apart vv nv
  ve : Apart vv ev

theorem rows4_nil (w : World) : Rows4 w w (.slice none 0 0) (.slice none 0 0) (.slice none 0 0) (.slice none 0 0) [] [] [] [] :=
  ⟨rows3_nil w, own_nil _ _ _ _ _ _, apart_nil_right _, apart_nil_right _, apart_nil_right _⟩

theorem ownsRow_same {w w' : World} {B : Nat} {e : TypeId} {size n : Nat} {v : Value} {xs : List Value} (h : w.ownsRow B e size v n xs) (hb : ∀ g, v.ownBlock = some g → w'.heap[g]? = w.heap[g]?) : w'.ownsRow B e size v n xs := by
  refine ⟨h.1, ?_⟩
  rcases h.2 with h' | ⟨g, cap, cur, rfl, h1, h2, h3⟩
  · exact .inl h'
  · exact .inr ⟨g, cap, cur, rfl, h1, (hb g rfl).trans h2, h3⟩

theorem Rows4.of {w3 wi w : World} {ov nv ev vv ov' sv' nv' ev' : Value} {out ns es vs out' stk ns' es' : List Int} (R : Rows4 w3 wi ov nv ev vv out ns es vs) (F : Four w3.heap.size wi ov nv ev w ov' sv' nv' ev' out' stk ns' es') : Rows4 w3 w ov' nv' ev' vv out' ns' es' vs := by
  refine ⟨R.rows.of F, ⟨ownsRow_same R.v.own (fun g hg => F.kept.block g (R.v.lt g hg) (R.vo g hg) (R.vn g hg) (R.ve g hg)), fun _ h => .inl h⟩, fun g hg h => ?_, fun g hg h => ?_, fun g hg h => ?_⟩
  · rcases F.o.blk g h with h' | h'
    · exact R.vo g hg h'
    · have := R.v.lt g hg; omega
  · rcases F.n.blk g h with h' | h'
    · exact R.vn g hg h'
    · have := R.v.lt g hg; omega
  · rcases F.e.blk g h with h' | h'
    · exact R.ve g hg h'
    · have := R.v.lt g hg; omega

/-- 'valueEnds = append(valueEnds, y)'. -/
theorem appV {w3 w : World} {ov nv ev vv : Value} {out ns es vs : List Int} (R : Rows4 w3 w ov nv ev vv out ns es vs) {ops : Array Oper} {rest : List Oper} {o : Oper} {a : Act} {Q : Exit → Act → World → Prop} (hgd : o.guard = none) (s x : Operand)
    (ho : o.op = .call { callee := .builtin .append, args := #[s, x], argTypes := #[41, 41] }) (y : Int) (hs : a.eval s = vv) (hx : a.eval x = .slice (some ⟨w.heap.size, 0, none⟩) 1 1) (hl : vs.length < 67108864)
    (h : ∀ g cap w1, Rows4 w3 w1 ov nv ev (.slice (some ⟨g, 0, none⟩) (vs.length + 1) cap) out ns es (vs ++ [y]) → wpList Try.prog ops Q rest (a.put o.dst (.slice (some ⟨g, 0, none⟩) (vs.length + 1) cap)) w1) :
    wpList Try.prog ops Q (o :: rest) a (w.alloc (.cells #[.int .i64 y] 3)) := by
  obtain ⟨i5, hi, hz0, hz1, hz2⟩ := info_parts Try.info3'
  have F := R.rows.four
  have hB := F.base
  refine wpList_append_lies _ hgd s x 41 ho w3.heap.size 3 i5 _ 1 8 Try.und41 hi hz0 hz1 hz2 rfl (by omega) vv vs.length (vs.map (Value.int .i64)) hs (R.v.own.alloc _) ⟨w.heap.size, 0, none⟩ 1 1 [.int .i64 y] hx rfl (cell_one_new _ _ _) (one_cell _ _) (by omega) (by unfold maxLen; omega) (by omega) (by simp; omega) (w.heap.size + 1) (by simp) ?_
  intro g cap w1 hown hgrow hat _
  have K : Kept w w1 vv (.slice none 0 0) (.slice none 0 0) := (Kept.refl w _ _ _).app hgrow (fun x hx => .inl (.inl hx))
  have bel : Below w3.heap.size w3 w1 := K.below R.rows.bel hB (fun x h => (R.v.own.lt x h).1) (fun x h => (by cases h)) (fun x h => (by cases h))
  have A := R.v.app hown hat (Nat.le_refl _)
  refine h g cap w1 ⟨⟨⟨⟨(F.o.keep R.vo.symm hgrow).own, fun _ h => .inl h⟩, own_nil _ _ _ _ _ _, ⟨(F.n.keep R.vn.symm hgrow).own, fun _ h => .inl h⟩, ⟨(F.e.keep R.ve.symm hgrow).own, fun _ h => .inl h⟩, apart_nil_right _, F.on, F.oe, apart_nil_left _, apart_nil_left _, F.ne, Kept.refl _ _ _ _, Nat.le_trans hB K.size⟩, bel⟩, ⟨A.own, fun _ h => .inl h⟩, R.vo.app hat F.o.lt, R.vn.app hat F.n.lt, R.ve.app hat F.e.lt⟩

/-! ### The piece of the shape -/
theorem Reads.piece {w : World} {g c : Nat} {Z : List Int} (h : Reads w (some ⟨g, 0, none⟩) c Z) {a k : Nat} (hk : k ≤ Z.length) : Reads w (some ⟨g, a, none⟩) (c - a) ((Z.drop a).take (k - a)) := by
  have hl := h.le
  refine ⟨fun h => (by cases h), by simp; omega, fun x hx i hi => ?_, fun x hx => h.byte x (List.mem_of_mem_drop (List.mem_of_mem_take hx))⟩
  have e : x = ⟨g, a, none⟩ := (Option.some.inj hx).symm
  subst e
  simp at hi
  have hc := h.cell _ rfl (a + i) (by omega)
  rw [add_plain] at hc ⊢
  rw [show a + i = 0 + (a + i) by omega, hc]
  have e2 : ((Z.drop a).take (k - a)).getD i 0 = Z.getD (a + i) 0 := by
    have h3 : a + i < Z.length := by omega
    simp [List.getD, hi, h3]
  rw [e2]

theorem reads_nil {w : World} {c : Nat} {Z : List Int} (h : Reads w none c Z) (a k : Nat) : Reads w none 0 ((Z.drop a).take (k - a)) := by
  have e := (h.nil rfl).1
  have e' : Z = [] := List.length_eq_zero_iff.mp e
  subst e'
  exact ⟨fun _ => ⟨by simp, rfl⟩, by simp, fun a ha => (by cases ha), by simp⟩

/-! ### Where loop 1 stands -/
structure Left (In St total nT eT vT : List Int) (base : Int) (P : List (List Int)) (out ns es vs : List Int) : Prop where
  t : out ++ lst In St P = total
  n : ns ++ (lnotes In St P out.length).map (fun a => base + (a.1 : Int)) = nT
  e : es ++ (lnotes In St P out.length).map (fun a => base + (a.2 : Int)) = eT
  v : vs ++ vends In St P out.length = vT

theorem Left.step {In St total nT eT vT : List Int} {base : Int} {p : List Int} {P : List (List Int)} {out ns es vs : List Int} (h : Left In St total nT eT vT base (p :: P) out ns es vs) {c : Int} (hc : c = if P = [] then 93 else 44) :
    Left In St total nT eT vT base P ((out ++ rend In St p []) ++ [c]) (ns ++ (notes In St p [] out.length).map (fun a => base + (a.1 : Int))) (es ++ (notes In St p [] out.length).map (fun a => base + (a.2 : Int))) (vs ++ [((out ++ rend In St p []).length : Int)]) := by
  subst hc
  have e : ((out ++ rend In St p []) ++ [if P = [] then 93 else 44]).length = out.length + (rend In St p []).length + 1 := by simp; omega
  refine ⟨?_, ?_, ?_, ?_⟩
  · rw [← h.t]; simp [lst]
  · rw [e, ← h.n]; simp [lnotes]
  · rw [e, ← h.e]; simp [lnotes]
  · rw [e, ← h.v]; simp [vends]

structure At7 (Sh : List Int) (n1 a k : Nat) (P : List (List Int)) : Prop where
  ak : a ≤ k
  at' : (k ≤ n1 ∧ P = pcs (Sh.drop k) ((Sh.drop a).take (k - a))) ∨ (k = n1 + 1 ∧ P = [])

/-- The row of the first numbers. -/
def ints (j : Nat) : List Int := (List.range j).map (fun i : Nat => (i : Int))
theorem ints_len (j : Nat) : (ints j).length = j := by simp [ints]
theorem ints_succ (j : Nat) : ints (j + 1) = ints j ++ [(j : Int)] := by simp [ints, List.range_succ]
theorem ints_get {j i : Nat} (h : i < j) : (ints j).getD i 0 = (i : Int) := by simp [ints, List.getD, h]

end Go.Proofs.Qxb6000404a
