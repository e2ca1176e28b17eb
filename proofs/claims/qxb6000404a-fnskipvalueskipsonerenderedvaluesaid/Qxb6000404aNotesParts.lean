import Derived.Test.Qxb6000404aClone32
import Derived.Deep.AppendLies
import Derived.Deep.RegionHeld3
import Derived.Deep.DrawnRows
namespace Go.Proofs.Qxb6000404a
open Go.RowKit

theorem Try.info57 : (Try.prog.info? 57).map (fun i => (i.zero, i.size, i.bytes)) = some (some (.slice none 0 0), 1, 24) := by kernel_rfl
theorem Try.info59 : (Try.prog.info? 59).map (fun i => (i.zero, i.size, i.bytes)) = some (some (.agg #[.int .i32 0, .int .i32 0]), 2, 8) := by kernel_rfl

/-- append within the capacity, as one step of a region that draws. -/
theorem step_append_fits {P : Program} (w : World) {ops : Array Oper} {o : Oper} {a : Act} {K : Act → World → Prop} {Q : Exit → Act → World → Prop} {E : Prop}
    (hgd : o.guard = none) (s x : Operand) (t : TypeId) (ho : o.op = .call { callee := .builtin .append, args := #[s, x], argTypes := #[t, t] })
    (base : Nat) (e : TypeId) (i : TypeInfo) (size : Nat) (h1 : P.underlying t = some (.slice e)) (h2 : P.info? e = some i) (h4 : i.size = size)
    (g k cap : Nat) (xs : List Value) (hs : a.eval s = .slice (some ⟨g, 0, none⟩) k cap) (hown : w.ownsRow base e size (.slice (some ⟨g, 0, none⟩) k cap) k xs) (ad : Addr) (m c : Nat) (news : List Value) (hx : a.eval x = .slice (some ad) m c) (hn : news.length = m * size)
    (hc : ∀ j u, news[j]? = some u → w.cell? (ad.add j) = some u) (h1c : ∀ u ∈ news, u.oneCell' = true) (b1 : k + m ≤ cap)
    (hK : ∀ w', w'.ownsRow base e size (.slice (some ⟨g, 0, none⟩) (k + m) cap) (k + m) (xs ++ news) → w.grownBy w' (some g) → K (a.put o.dst (.slice (some ⟨g, 0, none⟩) (k + m) cap)) w') :
    if Region.wanted o (yielded ops a.tmps) = true then Oper.wp P o a w K Q else E := by
  have hw : Region.wanted o (yielded ops a.tmps) = true := by simp [Region.wanted, hgd]
  rw [if_pos hw]
  obtain ⟨w', hrun, r1, r2⟩ := run_append_fits (P := P) w base t o.type e i size h1 h2 h4 g k cap xs hown ad m c news hn hc h1c b1
  unfold Oper.wp execOp
  simp only [ho, resolve, invoke, builtin, Sem.run_bind, Sem.run_pure, Result.andThen_ok, List.map_toArray, List.map_cons, List.map_nil, hs, hx, hrun]
  exact hK w' r1 r2

/-- How many of k notes lie in chunk j. -/
def cnt (k j : Nat) : Nat := min 1024 (k - 1024 * j)
def noteCells (S E : Nat → Int) (a m : Nat) : List Value := (List.range m).flatMap fun t => [.int .i32 (S (a + t)), .int .i32 (E (a + t))]
def rows (h : Nat → Nat) (k nc : Nat) : List Value := (List.range nc).map fun j => .slice (some ⟨h j, 0, none⟩) (cnt k j) 1024

theorem noteCells_succ (S E : Nat → Int) (a m : Nat) : noteCells S E a (m + 1) = noteCells S E a m ++ [.int .i32 (S (a + m)), .int .i32 (E (a + m))] := by
  simp [noteCells, List.range_succ]

theorem noteCells_length (S E : Nat → Int) (a m : Nat) : (noteCells S E a m).length = m * 2 := by
  induction m with
  | zero => rfl
  | succ m ih => rw [noteCells_succ, List.length_append, ih]; simp; omega

theorem noteCells_at (S E : Nat → Int) (a m t : Nat) (ht : t < m) : (noteCells S E a m)[t * 2]? = some (.int .i32 (S (a + t))) ∧ (noteCells S E a m)[t * 2 + 1]? = some (.int .i32 (E (a + t))) := by
  induction m with
  | zero => omega
  | succ m ih =>
    rw [noteCells_succ]
    by_cases e : t = m
    · subst e
      rw [List.getElem?_append_right (by rw [noteCells_length]; omega), List.getElem?_append_right (by rw [noteCells_length]; omega), noteCells_length]
      rw [show t * 2 - t * 2 = 0 by omega, show t * 2 + 1 - t * 2 = 1 by omega]
      exact ⟨rfl, rfl⟩
    · rw [List.getElem?_append_left (by rw [noteCells_length]; omega), List.getElem?_append_left (by rw [noteCells_length]; omega)]
      exact ih (by omega)

theorem rows_succ (h : Nat → Nat) (k nc : Nat) : rows h k (nc + 1) = rows h k nc ++ [.slice (some ⟨h nc, 0, none⟩) (cnt k nc) 1024] := by
  simp [rows, List.range_succ]

theorem rows_length (h : Nat → Nat) (k nc : Nat) : (rows h k nc).length = nc := by simp [rows]

theorem rows_at (h : Nat → Nat) (k nc j : Nat) (hj : j < nc) : (rows h k nc)[j]? = some (.slice (some ⟨h j, 0, none⟩) (cnt k j) 1024) := by
  simp [rows, hj]

theorem rows_congr (h h' : Nat → Nat) (k k' nc : Nat) (e : ∀ j, j < nc → h j = h' j ∧ cnt k j = cnt k' j) : rows h k nc = rows h' k' nc := by
  unfold rows
  refine List.map_congr_left fun j hj => ?_
  have := e j (by simpa using hj)
  rw [this.1, this.2]

theorem rows_set (h : Nat → Nat) (k nc : Nat) (l : Nat) (hl : l < nc) (hk : ∀ j, j < nc → j ≠ l → cnt (k + 1) j = cnt k j) : (rows h k nc).set l (.slice (some ⟨h l, 0, none⟩) (cnt (k + 1) l) 1024) = rows h (k + 1) nc := by
  refine List.ext_getElem? fun j => ?_
  rw [List.getElem?_set]
  by_cases hj : j < nc
  · by_cases e : l = j
    · subst e
      rw [if_pos rfl, rows_length, if_pos hl, rows_at _ _ _ _ hl]
    · rw [if_neg e, rows_at _ _ _ _ hj, rows_at _ _ _ _ hj, hk j hj (fun h => e h.symm)]
  · rw [if_neg (by omega), List.getElem?_eq_none (by rw [rows_length]; omega), List.getElem?_eq_none (by rw [rows_length]; omega)]

/-- The list under construction: block Lb holds the chunks' slice cv and the count nn; chunk j lies in block 'h j' and holds what belongs there of the first kk notes. -/
structure NInv (B : Nat) (w : World) (Lb nc kk : Nat) (nn : Int) (S E : Nat → Int) (cv : Value) (h : Nat → Nat) : Prop where
  lb : w.heap[Lb]? = some (.cells #[cv, .int .i64 nn] 45 (0, 0))
  own : w.ownsRow B 57 1 cv nc (rows h kk nc)
  chunk : ∀ j, j < nc → w.ownsRow B 59 2 (.slice (some ⟨h j, 0, none⟩) (cnt kk j) 1024) (cnt kk j) (noteCells S E (1024 * j) (cnt kk j))
  apart : ∀ j, j < nc → cv.ownBlock ≠ some (h j)
  inj : ∀ i j, i < nc → j < nc → h i = h j → i = j
  lt : Lb < B
  size : B ≤ w.heap.size

section
variable {B : Nat} {w : World} {Lb nc kk : Nat} {nn : Int} {S E : Nat → Int} {cv : Value} {h : Nat → Nat}

theorem NInv.cell0 (I : NInv B w Lb nc kk nn S E cv h) : w.cell? ⟨Lb, 0, none⟩ = some cv := by simp [World.cell?, I.lb]
theorem NInv.cell1 (I : NInv B w Lb nc kk nn S E cv h) : w.cell? ⟨Lb, 1, none⟩ = some (.int .i64 nn) := by simp [World.cell?, I.lb]
theorem NInv.frozen (I : NInv B w Lb nc kk nn S E cv h) (j : Nat) : w.frozen? ⟨Lb, j, none⟩ = false := by simp [World.frozen?, I.lb]
theorem NInv.lbNot (I : NInv B w Lb nc kk nn S E cv h) : some Lb ≠ cv.ownBlock := fun e => by
  have := (I.own.lt Lb e.symm).1
  have := I.lt
  omega

theorem heap_setCell_at {w : World} {b o : Nat} {cs : Array Value} {t : TypeId} (hb : w.heap[b]? = some (.cells cs t (0, 0))) (v : Value) : (w.setCell ⟨b, o, none⟩ v).heap[b]? = some (.cells (cs.setIfInBounds o v) t (0, 0)) := by
  simp [World.setCell, Array.getElem?_modify, hb]

/-- The same in a world that has grown without a write to what matters. -/
theorem NInv.kept (I : NInv B w Lb nc kk nn S E cv h) {w' : World} (hg : w.grownBy w' none) : NInv B w' Lb nc kk nn S E cv h := by
  refine ⟨?_, I.own.kept hg ?_, fun j hj => (I.chunk j hj).kept hg ?_, I.apart, I.inj, I.lt, Nat.le_trans I.size hg.size⟩
  · rw [hg.block Lb (Array.getElem?_eq_some_iff.1 I.lb).1 (by simp)]
    exact I.lb
  · cases cv.ownBlock <;> simp
  · right; simp [Value.ownBlock]

/-- A new chunk: made, appended to the chunks, stored. -/
theorem NInv.grow (I : NInv B w Lb nc kk nn S E cv h) (hk : cnt kk nc = 0) {w2 w3 : World} {g cap H : Nat} {cs : Array Value}
    (hg2 : w.grownBy w2 none) (hH : w.heap.size ≤ H) (hHb : w2.heap[H]? = some (.cells cs 59 (0, 0))) (hcs : cs.size = 2048)
    (hown : w3.ownsRow B 57 1 (.slice (some ⟨g, 0, none⟩) (nc + 1) cap) (nc + 1) (rows h kk nc ++ [.slice (some ⟨H, 0, none⟩) 0 1024])) (hg3 : w2.grownBy w3 cv.ownBlock)
    (hat : cv.ownBlock = some g ∨ g = w2.heap.size) :
    NInv B (w3.setCell ⟨Lb, 0, none⟩ (.slice (some ⟨g, 0, none⟩) (nc + 1) cap)) Lb (nc + 1) kk nn S E (.slice (some ⟨g, 0, none⟩) (nc + 1) cap) (fun j => if j = nc then H else h j) := by
  have J := I.kept hg2
  have hHlt : H < w2.heap.size := (Array.getElem?_eq_some_iff.1 hHb).1
  have hhlt : ∀ j, j < nc → h j < w.heap.size := fun j hj => ((I.chunk j hj).lt (h j) rfl).2
  have hHn : cv.ownBlock ≠ some H := fun e => by have := (I.own.lt H e).2; omega
  refine ⟨?_, ?_, ?_, ?_, ?_, I.lt, ?_⟩
  · have e : w3.heap[Lb]? = some (.cells #[cv, .int .i64 nn] 45 (0, 0)) := by
      rw [hg3.block Lb (Array.getElem?_eq_some_iff.1 J.lb).1 J.lbNot]
      exact J.lb
    rw [heap_setCell_at e]
    rfl
  · refine ownsRow_setCell_below ?_ I.lt _
    have e : rows (fun j => if j = nc then H else h j) kk (nc + 1) = rows h kk nc ++ [.slice (some ⟨H, 0, none⟩) 0 1024] := by
      rw [rows_succ, hk, rows_congr (fun j => if j = nc then H else h j) h kk kk nc (fun j hj => ⟨by rw [if_neg (by omega)], rfl⟩)]
      simp
    rw [e]
    exact hown
  · intro j hj
    refine ownsRow_setCell_below ?_ I.lt _
    by_cases e : j = nc
    · subst e
      simp only [if_pos]
      rw [hk]
      have hb : w3.heap[H]? = some (.cells cs 59 (0, 0)) := by
        rw [hg3.block H hHlt (fun e => hHn e.symm)]
        exact hHb
      exact ⟨rfl, .inr ⟨H, 1024, cs, rfl, Nat.le_trans I.size hH, hb, by omega, by unfold maxLen; omega, by omega, rfl⟩⟩
    · simp only [if_neg e]
      exact (J.chunk j (by omega)).kept hg3 (.inr (fun e' => I.apart j (by omega) (by rw [← e']; rfl)))
  · intro j hj
    have eg : Value.ownBlock (.slice (some ⟨g, 0, none⟩) (nc + 1) cap) = some g := rfl
    rw [eg]
    intro e
    have e' : g = (if j = nc then H else h j) := Option.some.inj e
    by_cases ej : j = nc
    · rw [if_pos ej] at e'
      rcases hat with hat | hat
      · rw [e'] at hat; exact hHn hat
      · omega
    · rw [if_neg ej] at e'
      rcases hat with hat | hat
      · rw [e'] at hat; exact I.apart j (by omega) hat
      · have := hhlt j (by omega); have := hg2.size; omega
  · intro i j hi hj e
    by_cases ei : i = nc
    · by_cases ej : j = nc
      · omega
      · simp only [if_pos ei, if_neg ej] at e
        have := hhlt j (by omega); omega
    · by_cases ej : j = nc
      · simp only [if_neg ei, if_pos ej] at e
        have := hhlt i (by omega); omega
      · simp only [if_neg ei, if_neg ej] at e
        exact I.inj i j (by omega) (by omega) e
  · have : (w3.setCell ⟨Lb, 0, none⟩ (.slice (some ⟨g, 0, none⟩) (nc + 1) cap)).heap.size = w3.heap.size := by simp [World.setCell]
    rw [this]
    exact Nat.le_trans J.size hg3.size

/-- A note more in the last chunk; the chunk's new slice stored. -/
theorem NInv.push (I : NInv B w Lb nc kk nn S E cv h) {l c : Nat} (hl : l + 1 = nc) (hc : kk = 1024 * l + c) (hc1 : c < 1024) {w2 w3 : World} {g cap : Nat} (hcv : cv = .slice (some ⟨g, 0, none⟩) nc cap)
    (hg2 : w.grownBy w2 none)
    (hown : w3.ownsRow B 59 2 (.slice (some ⟨h l, 0, none⟩) (c + 1) 1024) (c + 1) (noteCells S E (1024 * l) c ++ [.int .i32 (S kk), .int .i32 (E kk)])) (hg3 : w2.grownBy w3 (some (h l))) :
    NInv B (w3.setCell ⟨g, l, none⟩ (.slice (some ⟨h l, 0, none⟩) (c + 1) 1024)) Lb nc (kk + 1) nn S E cv h := by
  subst hcv
  have J := I.kept hg2
  have hcl : cnt (kk + 1) l = c + 1 := by unfold cnt; omega
  have hcj : ∀ j, j < nc → j ≠ l → cnt (kk + 1) j = cnt kk j := fun j hj e => by unfold cnt; omega
  have hgn : (h l) ≠ g := fun e => I.apart l (by omega) (by rw [e]; rfl)
  have hgB := (I.own.lt g rfl).1
  refine ⟨?_, ?_, ?_, I.apart, I.inj, I.lt, ?_⟩
  · rw [Below.heap_setCell _ _ _ _ (by have := I.lt; show Lb ≠ g; omega)]
    rw [hg3.block Lb (Array.getElem?_eq_some_iff.1 J.lb).1 (fun e => by
      have h1 : Lb = h l := Option.some.inj e
      have := ((I.chunk l (by omega)).lt (h l) rfl).1
      have := I.lt
      omega)]
    exact J.lb
  · have o3 : w3.ownsRow B 57 1 (.slice (some ⟨g, 0, none⟩) nc cap) nc (rows h kk nc) := J.own.kept hg3 (.inr (fun e => hgn (Option.some.inj e).symm))
    have := (o3.stored l (.slice (some ⟨h l, 0, none⟩) (c + 1) 1024)).1
    rw [← hcl, rows_set h kk nc l (by omega) hcj] at this
    rw [← hcl]
    exact this
  · intro j hj
    have hne : h j ≠ g := fun e => I.apart j hj (by rw [e]; rfl)
    have key : w3.ownsRow B 59 2 (.slice (some ⟨h j, 0, none⟩) (cnt (kk + 1) j) 1024) (cnt (kk + 1) j) (noteCells S E (1024 * j) (cnt (kk + 1) j)) := by
      by_cases e : j = l
      · subst e
        rw [hcl, noteCells_succ]
        rw [← hc]
        exact hown
      · rw [hcj j hj e]
        exact (J.chunk j hj).kept hg3 (.inr (fun e' => e (I.inj j l hj (by omega) (Option.some.inj e'))))
    obtain ⟨k1, k2⟩ := key
    refine ⟨k1, ?_⟩
    rcases k2 with ⟨k2, _⟩ | ⟨g', cap', cur, hv, hg, hh, r⟩
    · cases k2
    · refine .inr ⟨g', cap', cur, hv, hg, ?_, r⟩
      have eg : g' = h j := by
        have := congrArg Value.ownBlock hv
        exact (Option.some.inj this).symm
      rw [Below.heap_setCell _ _ _ _ (by show g' ≠ g; omega)]
      exact hh
  · have : (w3.setCell ⟨g, l, none⟩ (.slice (some ⟨h l, 0, none⟩) (c + 1) 1024)).heap.size = w3.heap.size := by simp [World.setCell]
    rw [this]
    exact Nat.le_trans J.size hg3.size

/-- The count goes up. -/
theorem NInv.count (I : NInv B w Lb nc kk nn S E cv h) (m : Int) : NInv B (w.setCell ⟨Lb, 1, none⟩ (.int .i64 m)) Lb nc kk m S E cv h := by
  refine ⟨?_, ownsRow_setCell_below I.own I.lt _, fun j hj => ownsRow_setCell_below (I.chunk j hj) I.lt _, I.apart, I.inj, I.lt, by have := I.size; simpa [World.setCell] using this⟩
  rw [heap_setCell_at I.lb]
  rfl

/-- Note i, as the chunks' slice cv leads to it. -/
def NoteV (w : World) (cv : Value) (i : Nat) (s e : Int) : Prop :=
  ∃ g nc cap hb cn cp : Nat, cv = .slice (some ⟨g, 0, none⟩) nc cap ∧ i / 1024 < nc ∧ w.cell? ⟨g, i / 1024, none⟩ = some (.slice (some ⟨hb, 0, none⟩) cn cp) ∧ i % 1024 < cn ∧
    w.cell? ⟨hb, i % 1024 * 2, none⟩ = some (.int .i32 s) ∧ w.cell? ⟨hb, i % 1024 * 2 + 1, none⟩ = some (.int .i32 e)

theorem NoteV.later {w w' : World} {cv : Value} {i : Nat} {s e : Int} (hv : NoteV w cv i s e) (hb : Below w.heap.size w w') : NoteV w' cv i s e := by
  obtain ⟨g, nc, cap, hb', cn, cp, h1, h2, h3, h4, h5, h6⟩ := hv
  exact ⟨g, nc, cap, hb', cn, cp, h1, h2, cell_later hb h3, h4, cell_later hb h5, cell_later hb h6⟩

theorem NInv.note (I : NInv B w Lb nc kk nn S E cv h) (hnc : kk ≤ 1024 * nc) {i : Nat} (hi : i < kk) : NoteV w cv i (S i) (E i) := by
  have hj : i / 1024 < nc := by omega
  obtain ⟨g, cap, hcv, _, _⟩ := I.own.form (by omega)
  have hcn : i % 1024 < cnt kk (i / 1024) := by unfold cnt; omega
  have own := I.own
  rw [hcv] at own
  have hc := I.chunk (i / 1024) hj
  have na := noteCells_at S E (1024 * (i / 1024)) (cnt kk (i / 1024)) (i % 1024) hcn
  rw [show 1024 * (i / 1024) + i % 1024 = i by omega] at na
  refine ⟨g, nc, cap, h (i / 1024), cnt kk (i / 1024), 1024, hcv, hj, ?_, hcn, ?_, ?_⟩
  · rw [own.cellAt (i / 1024) (by omega), rows_at _ _ _ _ hj]
  · rw [hc.cellAt (i % 1024 * 2) (by omega)]
    exact na.1
  · rw [hc.cellAt (i % 1024 * 2 + 1) (by omega)]
    exact na.2
end

end Go.Proofs.Qxb6000404a
