import Derived.Test.Qxb6000404aClone
import Derived.Deep.AppendLies
namespace Go.Proofs.Qxb6000404a
open Go.RowKit

/-! ### Rows of numbers that the call owns and appends to, one element at a time -/

/-- Two values own no block in common. -/
def Apart (a b : Value) : Prop := ∀ g, a.ownBlock = some g → b.ownBlock ≠ some g

theorem Apart.symm {a b : Value} (h : Apart a b) : Apart b a := fun g h1 h2 => h g h2 h1

/-- The row v holds the numbers l in w; its block is v0's, or was made since wi. -/
structure Own (B : Nat) (wi : World) (v0 : Value) (w : World) (e : TypeId) (k : IntKind) (v : Value) (l : List Int) : Prop where
  own : w.ownsRow B e 1 v l.length (l.map (Value.int k))
  blk : ∀ x, v.ownBlock = some x → v0.ownBlock = some x ∨ wi.heap.size ≤ x

/-- w is wi but for the blocks of three values, and new blocks. -/
structure Kept (wi w : World) (a b c : Value) : Prop where
  os : w.os = wi.os
  tape : w.tape = wi.tape
  output : w.output = wi.output
  size : wi.heap.size ≤ w.heap.size
  block : ∀ x, x < wi.heap.size → a.ownBlock ≠ some x → b.ownBlock ≠ some x → c.ownBlock ≠ some x → w.heap[x]? = wi.heap[x]?

section
variable {B : Nat} {wi w w1 : World} {v0 v u : Value} {e : TypeId} {k : IntKind} {l : List Int} {ob : Obj}

theorem Own.shape (O : Own B wi v0 w e k v l) : ∃ ao c, v = .slice ao l.length c := by
  rcases O.own.2 with ⟨h, h'⟩ | ⟨g, cap, _, h, _⟩
  · exact ⟨none, 0, by rw [h, h']⟩
  · exact ⟨_, _, h⟩

theorem Own.lt (O : Own B wi v0 w e k v l) : ∀ x, v.ownBlock = some x → x < w.heap.size := fun x h => (O.own.lt x h).2

theorem Own.keep (O : Own B wi v0 w e k v l) (hap : Apart v u) (hg : (w.alloc ob).grownBy w1 u.ownBlock) : Own B wi v0 w1 e k v l := by
  refine ⟨(O.own.alloc ob).kept hg ?_, O.blk⟩
  cases hv : v.ownBlock with
  | none => exact .inl rfl
  | some x => exact .inr (fun h => hap x hv h.symm)

theorem Own.app (O : Own B wi v0 w e k v l) {g cap : Nat} {x : Int} (hown : w1.ownsRow B e 1 (.slice (some ⟨g, 0, none⟩) (l.length + 1) cap) (l.length + 1) (l.map (Value.int k) ++ [.int k x])) (hat : v.ownBlock = some g ∨ g = w.heap.size + 1) (hs : wi.heap.size ≤ w.heap.size) :
    Own B wi v0 w1 e k (.slice (some ⟨g, 0, none⟩) (l.length + 1) cap) (l ++ [x]) := by
  refine ⟨by simpa using hown, fun y hy => ?_⟩
  have e : g = y := Option.some.inj hy
  subst e
  rcases hat with h | h
  · exact O.blk _ h
  · right; omega

theorem Apart.app (hap : Apart v u) {g cap n : Nat} (hat : v.ownBlock = some g ∨ g = w.heap.size + 1) (hu : ∀ x, u.ownBlock = some x → x < w.heap.size) : Apart (.slice (some ⟨g, 0, none⟩) n cap) u := by
  intro y hy
  have e : g = y := Option.some.inj hy
  subst e
  rcases hat with h | h
  · exact hap _ h
  · intro h'
    have := hu _ h'
    omega

theorem Kept.app {a b c : Value} (K : Kept wi w a b c) (hg : (w.alloc ob).grownBy w1 u.ownBlock) (hu : ∀ x, u.ownBlock = some x → (a.ownBlock = some x ∨ b.ownBlock = some x ∨ c.ownBlock = some x) ∨ wi.heap.size ≤ x) : Kept wi w1 a b c := by
  refine ⟨hg.os.trans K.os, hg.tape.trans K.tape, hg.output.trans K.output, ?_, fun x hx ha hb hc => ?_⟩
  · have := hg.size
    have := K.size
    simp at *
    omega
  · have hlt : x < w.heap.size := Nat.lt_of_lt_of_le hx K.size
    rw [hg.block x (by simp; omega) (fun h => ?_), heap_alloc_old w ob hlt]
    · exact K.block x hx ha hb hc
    · rcases hu x h.symm with (h' | h' | h') | h'
      · exact ha h'
      · exact hb h'
      · exact hc h'
      · omega

theorem Kept.below {w0 : World} {a b c : Value} (K : Kept wi w a b c) (hb : Below B w0 wi) (hB : B ≤ wi.heap.size) (ha : ∀ x, a.ownBlock = some x → B ≤ x) (hb' : ∀ x, b.ownBlock = some x → B ≤ x) (hc : ∀ x, c.ownBlock = some x → B ≤ x) : Below B w0 w :=
  hb.trans ⟨K.os, K.tape, K.output, K.size, fun x hx => K.block x (by omega) (fun h => by have := ha x h; omega) (fun h => by have := hb' x h; omega) (fun h => by have := hc x h; omega)⟩

theorem Kept.refl (w : World) (a b c : Value) : Kept w w a b c := ⟨rfl, rfl, rfl, Nat.le_refl _, fun _ _ _ _ _ => rfl⟩
end

/-- The four rows of zzB1Render: the text, the stack, the starts and the ends of the notes. -/
structure Four (B : Nat) (wi : World) (o0 n0 e0 : Value) (w : World) (ov sv nv ev : Value) (out stk ns es : List Int) : Prop where
  o : Own B wi o0 w 5 .u8 ov out
  s : Own B wi (.slice none 0 0) w 5 .u8 sv stk
  n : Own B wi n0 w 21 .i32 nv ns
  e : Own B wi e0 w 21 .i32 ev es
  os : Apart ov sv
  on : Apart ov nv
  oe : Apart ov ev
  sn : Apart sv nv
  se : Apart sv ev
  ne : Apart nv ev
  kept : Kept wi w o0 n0 e0
  base : B ≤ wi.heap.size

theorem Try.info5' : (Try.prog.info? 5).map (fun i => (i.zero, i.size, i.bytes)) = some (some (.int .u8 0), 1, 1) := by kernel_rfl

section
variable {B : Nat} {wi w : World} {o0 n0 e0 ov sv nv ev : Value} {out stk ns es : List Int}

theorem one_cell (k : IntKind) (y : Int) : ∀ u ∈ [Value.int k y], u.oneCell' = true := by
  intro u hu
  simp at hu
  subst hu
  rfl

/-- 'out = append(out, y)'. -/
theorem appO (F : Four B wi o0 n0 e0 w ov sv nv ev out stk ns es) {ops : Array Oper} {rest : List Oper} {o : Oper} {a : Act} {Q : Exit → Act → World → Prop} (hgd : o.guard = none) (s x : Operand)
    (ho : o.op = .call { callee := .builtin .append, args := #[s, x], argTypes := #[22, 22] }) (y : Int) (hs : a.eval s = ov) (hx : a.eval x = .slice (some ⟨w.heap.size, 0, none⟩) 1 1) (hl : out.length < 67108864)
    (h : ∀ g cap w1, Four B wi o0 n0 e0 w1 (.slice (some ⟨g, 0, none⟩) (out.length + 1) cap) sv nv ev (out ++ [y]) stk ns es → wpList Try.prog ops Q rest (a.put o.dst (.slice (some ⟨g, 0, none⟩) (out.length + 1) cap)) w1) :
    wpList Try.prog ops Q (o :: rest) a (w.alloc (.cells #[.int .u8 y] 5)) := by
  obtain ⟨i5, hi, hz0, hz1, hz2⟩ := info_parts Try.info5'
  have hsz := F.kept.size
  have hB := F.base
  refine wpList_append_lies _ hgd s x 22 ho B 5 i5 _ 1 1 Try.underlying22 hi hz0 hz1 hz2 rfl (by omega) ov out.length (out.map (Value.int .u8)) hs (F.o.own.alloc _) ⟨w.heap.size, 0, none⟩ 1 1 [.int .u8 y] hx rfl (cell_one_new _ _ _) (one_cell _ _) (by omega) (by unfold maxLen; omega) (by omega) (by simp; omega) (w.heap.size + 1) (by simp) ?_
  intro g cap w1 hown hgrow hat _
  refine h g cap w1 ⟨F.o.app hown hat hsz, F.s.keep F.os.symm hgrow, F.n.keep F.on.symm hgrow, F.e.keep F.oe.symm hgrow, F.os.app hat F.s.lt, F.on.app hat F.n.lt, F.oe.app hat F.e.lt, F.sn, F.se, F.ne, F.kept.app hgrow (fun x hx => ?_), F.base⟩
  rcases F.o.blk x hx with h | h
  · exact .inl (.inl h)
  · exact .inr h

/-- 'stack = append(stack, y)'. -/
theorem appS (F : Four B wi o0 n0 e0 w ov sv nv ev out stk ns es) {ops : Array Oper} {rest : List Oper} {o : Oper} {a : Act} {Q : Exit → Act → World → Prop} (hgd : o.guard = none) (s x : Operand)
    (ho : o.op = .call { callee := .builtin .append, args := #[s, x], argTypes := #[22, 22] }) (y : Int) (hs : a.eval s = sv) (hx : a.eval x = .slice (some ⟨w.heap.size, 0, none⟩) 1 1) (hl : stk.length < 67108864)
    (h : ∀ g cap w1, Four B wi o0 n0 e0 w1 ov (.slice (some ⟨g, 0, none⟩) (stk.length + 1) cap) nv ev out (stk ++ [y]) ns es → wpList Try.prog ops Q rest (a.put o.dst (.slice (some ⟨g, 0, none⟩) (stk.length + 1) cap)) w1) :
    wpList Try.prog ops Q (o :: rest) a (w.alloc (.cells #[.int .u8 y] 5)) := by
  obtain ⟨i5, hi, hz0, hz1, hz2⟩ := info_parts Try.info5'
  have hsz := F.kept.size
  have hB := F.base
  refine wpList_append_lies _ hgd s x 22 ho B 5 i5 _ 1 1 Try.underlying22 hi hz0 hz1 hz2 rfl (by omega) sv stk.length (stk.map (Value.int .u8)) hs (F.s.own.alloc _) ⟨w.heap.size, 0, none⟩ 1 1 [.int .u8 y] hx rfl (cell_one_new _ _ _) (one_cell _ _) (by omega) (by unfold maxLen; omega) (by omega) (by simp; omega) (w.heap.size + 1) (by simp) ?_
  intro g cap w1 hown hgrow hat _
  refine h g cap w1 ⟨F.o.keep F.os hgrow, F.s.app hown hat hsz, F.n.keep F.sn.symm hgrow, F.e.keep F.se.symm hgrow, (F.os.symm.app hat F.o.lt).symm, F.on, F.oe, F.sn.app hat F.n.lt, F.se.app hat F.e.lt, F.ne, F.kept.app hgrow (fun x hx => ?_), F.base⟩
  rcases F.s.blk x hx with h | h
  · cases h
  · exact .inr h

/-- 'starts = append(starts, y)'. -/
theorem appN (F : Four B wi o0 n0 e0 w ov sv nv ev out stk ns es) {ops : Array Oper} {rest : List Oper} {o : Oper} {a : Act} {Q : Exit → Act → World → Prop} (hgd : o.guard = none) (s x : Operand)
    (ho : o.op = .call { callee := .builtin .append, args := #[s, x], argTypes := #[27, 27] }) (y : Int) (hs : a.eval s = nv) (hx : a.eval x = .slice (some ⟨w.heap.size, 0, none⟩) 1 1) (hl : ns.length < 67108864)
    (h : ∀ g cap w1, Four B wi o0 n0 e0 w1 ov sv (.slice (some ⟨g, 0, none⟩) (ns.length + 1) cap) ev out stk (ns ++ [y]) es → wpList Try.prog ops Q rest (a.put o.dst (.slice (some ⟨g, 0, none⟩) (ns.length + 1) cap)) w1) :
    wpList Try.prog ops Q (o :: rest) a (w.alloc (.cells #[.int .i32 y] 21)) := by
  obtain ⟨i5, hi, hz0, hz1, hz2⟩ := info_parts Try.info21
  have hsz := F.kept.size
  have hB := F.base
  refine wpList_append_lies _ hgd s x 27 ho B 21 i5 _ 1 4 Try.underlying27 hi hz0 hz1 hz2 rfl (by omega) nv ns.length (ns.map (Value.int .i32)) hs (F.n.own.alloc _) ⟨w.heap.size, 0, none⟩ 1 1 [.int .i32 y] hx rfl (cell_one_new _ _ _) (one_cell _ _) (by omega) (by unfold maxLen; omega) (by omega) (by simp; omega) (w.heap.size + 1) (by simp) ?_
  intro g cap w1 hown hgrow hat _
  refine h g cap w1 ⟨F.o.keep F.on hgrow, F.s.keep F.sn hgrow, F.n.app hown hat hsz, F.e.keep F.ne.symm hgrow, F.os, (F.on.symm.app hat F.o.lt).symm, F.oe, (F.sn.symm.app hat F.s.lt).symm, F.se, F.ne.app hat F.e.lt, F.kept.app hgrow (fun x hx => ?_), F.base⟩
  rcases F.n.blk x hx with h | h
  · exact .inl (.inr (.inl h))
  · exact .inr h

/-- 'ends = append(ends, y)'. -/
theorem appE (F : Four B wi o0 n0 e0 w ov sv nv ev out stk ns es) {ops : Array Oper} {rest : List Oper} {o : Oper} {a : Act} {Q : Exit → Act → World → Prop} (hgd : o.guard = none) (s x : Operand)
    (ho : o.op = .call { callee := .builtin .append, args := #[s, x], argTypes := #[27, 27] }) (y : Int) (hs : a.eval s = ev) (hx : a.eval x = .slice (some ⟨w.heap.size, 0, none⟩) 1 1) (hl : es.length < 67108864)
    (h : ∀ g cap w1, Four B wi o0 n0 e0 w1 ov sv nv (.slice (some ⟨g, 0, none⟩) (es.length + 1) cap) out stk ns (es ++ [y]) → wpList Try.prog ops Q rest (a.put o.dst (.slice (some ⟨g, 0, none⟩) (es.length + 1) cap)) w1) :
    wpList Try.prog ops Q (o :: rest) a (w.alloc (.cells #[.int .i32 y] 21)) := by
  obtain ⟨i5, hi, hz0, hz1, hz2⟩ := info_parts Try.info21
  have hsz := F.kept.size
  have hB := F.base
  refine wpList_append_lies _ hgd s x 27 ho B 21 i5 _ 1 4 Try.underlying27 hi hz0 hz1 hz2 rfl (by omega) ev es.length (es.map (Value.int .i32)) hs (F.e.own.alloc _) ⟨w.heap.size, 0, none⟩ 1 1 [.int .i32 y] hx rfl (cell_one_new _ _ _) (one_cell _ _) (by omega) (by unfold maxLen; omega) (by omega) (by simp; omega) (w.heap.size + 1) (by simp) ?_
  intro g cap w1 hown hgrow hat _
  refine h g cap w1 ⟨F.o.keep F.oe hgrow, F.s.keep F.se hgrow, F.n.keep F.ne hgrow, F.e.app hown hat hsz, F.os, F.on, (F.oe.symm.app hat F.o.lt).symm, F.sn, (F.se.symm.app hat F.s.lt).symm, (F.ne.symm.app hat F.n.lt).symm, F.kept.app hgrow (fun x hx => ?_), F.base⟩
  rcases F.e.blk x hx with h | h
  · exact .inl (.inr (.inr h))
  · exact .inr h

/-- 'stack = stack[:len(stack)-1]'. -/
theorem Four.pop {g cap n : Nat} {c : Int} {st : List Int} (F : Four B wi o0 n0 e0 w ov (.slice (some ⟨g, 0, none⟩) (n + 1) cap) nv ev out (st ++ [c]) ns es) (hn : st.length = n) : Four B wi o0 n0 e0 w ov (.slice (some ⟨g, 0, none⟩) n cap) nv ev out st ns es := by
  subst hn
  refine ⟨F.o, ⟨?_, F.s.blk⟩, F.n, F.e, F.os, F.on, F.oe, F.sn, F.se, F.ne, F.kept, F.base⟩
  have h := F.s.own
  simp only [List.length_append, List.length_cons, List.length_nil, Nat.zero_add, List.map_append, List.map_cons, List.map_nil] at h
  exact ownsRow_pop (by simp) h
end

end Go.Proofs.Qxb6000404a
