import Derived.Test.Qxb6000404aNewNoted
import Derived.Test.Qxb6000404aRender
import Derived.Test.Qxb6000404aFits
namespace Go.Proofs.Qxb6000404a
open Go.RowKit

/-! ### What stands ahead of the two laws on skipValue: the helpers' contracts -/

theorem bytes21_yes (A1 A2 A3 : Option Addr) (n1 n2 n3 c1 c2 c3 : Nat) (i : Int) (w : World) (h : n1 + n2 + n3 ≤ 1048576) :
    Calls Try.prog 21 #[.slice A1 n1 c1, .slice A2 n2 c2, .slice A3 n3 c3, .int .i64 i] w fun e w' => e = .returned (.bool true) ∧ w' = w := by
  go_enter Try.func21, Try.ntmps21
  go_wp2
  go_ret
  exact ⟨rfl, rfl⟩

theorem bytes21_no (A1 A2 A3 : Option Addr) (n1 n2 n3 c1 c2 c3 : Nat) (i : Int) (w : World) (h : 1048576 < n1 + n2 + n3) :
    Calls Try.prog 21 #[.slice A1 n1 c1, .slice A2 n2 c2, .slice A3 n3 c3, .int .i64 i] w fun e w' => e = .returned (.bool false) ∧ w' = w := by
  by_cases h0 : 1048576 < n1
  · clear h
    go_enter Try.func21, Try.ntmps21
    go_wp2
    go_ret
    exact ⟨rfl, rfl⟩
  by_cases h1 : 1048576 < n2
  · clear h
    go_enter Try.func21, Try.ntmps21
    go_wp2
    go_ret
    exact ⟨rfl, rfl⟩
  by_cases h2 : 1048576 < n1 + n2
  · clear h
    go_enter Try.func21, Try.ntmps21
    go_wp2
    go_ret
    exact ⟨rfl, rfl⟩
  by_cases h3 : 1048576 < n3
  · clear h
    go_enter Try.func21, Try.ntmps21
    go_wp2
    go_ret
    exact ⟨rfl, rfl⟩
  by_cases h4 : 1048576 < n1 + n2 + n3
  · clear h
    go_enter Try.func21, Try.ntmps21
    go_wp2
    go_ret
    exact ⟨rfl, rfl⟩
  omega

theorem bytes15_yes (A1 A2 A3 A4 A5 : Option Addr) (n1 n2 n3 n4 n5 c1 c2 c3 c4 c5 : Nat) (t i j : Int) (w : World) (h : n1 + n2 + n3 + n4 + n5 ≤ 1048576) :
    Calls Try.prog 15 #[.slice A1 n1 c1, .slice A2 n2 c2, .slice A3 n3 c3, .slice A4 n4 c4, .int .u8 t, .slice A5 n5 c5, .int .i64 i, .int .i64 j] w fun e w' => e = .returned (.bool true) ∧ w' = w := by
  go_enter Try.func15, Try.ntmps15
  go_wp2
  go_ret
  exact ⟨rfl, rfl⟩

set_option maxHeartbeats 1000000 in
theorem bytes15_no (A1 A2 A3 A4 A5 : Option Addr) (n1 n2 n3 n4 n5 c1 c2 c3 c4 c5 : Nat) (t i j : Int) (w : World) (h : 1048576 < n1 + n2 + n3 + n4 + n5) :
    Calls Try.prog 15 #[.slice A1 n1 c1, .slice A2 n2 c2, .slice A3 n3 c3, .slice A4 n4 c4, .int .u8 t, .slice A5 n5 c5, .int .i64 i, .int .i64 j] w fun e w' => e = .returned (.bool false) ∧ w' = w := by
  by_cases h0 : 1048576 < n1
  · clear h
    go_enter Try.func15, Try.ntmps15
    go_wp2
    go_ret
    exact ⟨rfl, rfl⟩
  by_cases h1 : 1048576 < n2
  · clear h
    go_enter Try.func15, Try.ntmps15
    go_wp2
    go_ret
    exact ⟨rfl, rfl⟩
  by_cases h2 : 1048576 < n1 + n2
  · clear h
    go_enter Try.func15, Try.ntmps15
    go_wp2
    go_ret
    exact ⟨rfl, rfl⟩
  by_cases h3 : 1048576 < n3
  · clear h
    go_enter Try.func15, Try.ntmps15
    go_wp2
    go_ret
    exact ⟨rfl, rfl⟩
  by_cases h4 : 1048576 < n1 + n2 + n3
  · clear h
    go_enter Try.func15, Try.ntmps15
    go_wp2
    go_ret
    exact ⟨rfl, rfl⟩
  by_cases h5 : 1048576 < n4
  · clear h
    go_enter Try.func15, Try.ntmps15
    go_wp2
    go_ret
    exact ⟨rfl, rfl⟩
  by_cases h6 : 1048576 < n1 + n2 + n3 + n4
  · clear h
    go_enter Try.func15, Try.ntmps15
    go_wp2
    go_ret
    exact ⟨rfl, rfl⟩
  by_cases h7 : 1048576 < n5
  · clear h
    go_enter Try.func15, Try.ntmps15
    go_wp2
    go_ret
    exact ⟨rfl, rfl⟩
  by_cases h8 : 1048576 < n1 + n2 + n3 + n4 + n5
  · clear h
    go_enter Try.func15, Try.ntmps15
    go_wp2
    go_ret
    exact ⟨rfl, rfl⟩
  omega

/-- What zzB1Term answers. -/
structure TermSays (e : Ending) : Prop where
  says : ∃ y : Int, e = .returned (.int .u8 y) ∧ (y = 44 ∨ y = 125 ∨ y = 93)

theorem term_any (t : Int) (w : World) (h0 : 0 ≤ t) (h1 : t ≤ 255) : Calls Try.prog 18 #[.int .u8 t] w fun e w' => TermSays e ∧ w' = w := by
  by_cases q0 : t % 3 = 0
  · have y0 : (t % 3 == 0) = true := by simp [q0]
    clear q0
    go_enter Try.func18, Try.ntmps18
    go_wp2
    go_ret
    exact ⟨⟨44, rfl, .inl rfl⟩, rfl⟩
  by_cases q1 : t % 3 = 1
  · have y0 : (t % 3 == 0) = false := by simp; omega
    have y1 : (t % 3 == 1) = true := by simp [q1]
    clear q0 q1
    go_enter Try.func18, Try.ntmps18
    go_wp2
    go_ret
    exact ⟨⟨125, rfl, .inr (.inl rfl)⟩, rfl⟩
  · have y0 : (t % 3 == 0) = false := by simp; omega
    have y1 : (t % 3 == 1) = false := by simp; omega
    clear q0 q1
    go_enter Try.func18, Try.ntmps18
    go_wp2
    go_ret
    exact ⟨⟨93, rfl, .inr (.inr rfl)⟩, rfl⟩

theorem add_plain (g o i : Nat) : (⟨g, o, none⟩ : Addr).add i = ⟨g, o + i, none⟩ := by
  by_cases h : i = 0
  · subst h; simp [Addr.add]
  · simp [Addr.add, h]

theorem zero_cell {w : World} {g i : Nat} {v : Value} (h : w.cell? ⟨g, i, none⟩ = some v) : w.cell? ⟨g, 0 + i, none⟩ = some v := by rw [Nat.zero_add]; exact h

/-- zzB1Clone: what it reads as it came. -/
theorem clone_reads (w : World) (A : Option Addr) (c n : Nat) (Z : List Int) (r : Reads w A c Z) (e : Z.length = n) (hn : n ≤ 1048576) :
    Calls Try.prog 9 #[.slice A n c] w fun e w' => ∃ A' c', e = .returned (.slice A' n c') ∧ Reads w' A' c' Z ∧ (A' = none ∨ ∃ g, A' = some ⟨g, 0, none⟩) ∧ Below w.heap.size w w' := by
  subst e
  cases A with
  | none =>
    obtain ⟨h1, h2⟩ := r.nil rfl
    rw [h1, h2]
    refine (clone_nil w).mono ?_
    rintro e w' ⟨rfl, hw⟩
    subst w'
    exact ⟨none, 0, rfl, ⟨fun _ => ⟨h1, rfl⟩, by omega, fun a ha => (by cases ha), r.byte⟩, .inl rfl, Below.refl _ _⟩
  | some a =>
    refine (clone_some a Z.length c (fun i => Z.getD i 0) w hn (fun i hi => r.cell a rfl i hi)).mono ?_
    rintro e w' ⟨rfl, hrow, _, hb⟩
    refine ⟨_, _, rfl, ⟨fun h => (by cases h), Nat.le_refl _, fun a' ha' i hi => ?_, r.byte⟩, .inr ⟨_, rfl⟩, hb⟩
    have ea : a' = ⟨w.heap.size, 0, none⟩ := (Option.some.inj ha').symm
    subst ea
    have := hrow.cell hi
    rw [add_plain]
    exact zero_cell this

theorem Reads.fits {w : World} {A : Option Addr} {c n : Nat} {Z : List Int} (h : Reads w A c Z) (e : Z.length = n) : ∀ i, i < n → ∃ b o, A = some ⟨b, o, none⟩ ∧ w.cell? ⟨b, o + i, none⟩ = some (.int .u8 (Z.getD i 0)) := by
  intro i hi
  obtain ⟨b, o, x, hA, hd, _, _, hc⟩ := h.at e hi
  refine ⟨b, o, hA, ?_⟩
  rw [hc w (Below.refl _ _)]
  have h2 : i < Z.length := by omega
  rw [List.drop_eq_getElem_cons h2] at hd
  have := (List.cons.inj hd).1
  simp [List.getD, h2, this]

/-! ### The three rows between the calls -/

/-- The text and the two rows of notes, the call's own since w5; nothing of w5 is changed. -/
structure Rows3 (w5 w : World) (ov nv ev : Value) (out ns es : List Int) : Prop where
  four : Four w5.heap.size w ov nv ev w ov (.slice none 0 0) nv ev out [] ns es
  bel : Below w5.heap.size w5 w

theorem apart_nil_left (v : Value) : Apart (.slice none 0 0) v := fun _ h => by cases h
theorem apart_nil_right (v : Value) : Apart v (.slice none 0 0) := fun _ _ h => by cases h

theorem own_nil (B : Nat) (wi w : World) (v0 : Value) (e : TypeId) (k : IntKind) : Own B wi v0 w e k (.slice none 0 0) [] := ⟨World.ownsRow_nil w B e 1, fun _ h => by cases h⟩

theorem Four.rebase {B : Nat} {wi w : World} {o0 n0 e0 ov sv nv ev : Value} {out stk ns es : List Int} (F : Four B wi o0 n0 e0 w ov sv nv ev out stk ns es) : Four B w ov nv ev w ov (.slice none 0 0) nv ev out [] ns es :=
  ⟨⟨F.o.own, fun _ h => .inl h⟩, own_nil _ _ _ _ _ _, ⟨F.n.own, fun _ h => .inl h⟩, ⟨F.e.own, fun _ h => .inl h⟩, apart_nil_right _, F.on, F.oe, apart_nil_left _, apart_nil_left _, F.ne, Kept.refl _ _ _ _, Nat.le_trans F.base F.kept.size⟩

theorem four_nil (w : World) : Four w.heap.size w (.slice none 0 0) (.slice none 0 0) (.slice none 0 0) w (.slice none 0 0) (.slice none 0 0) (.slice none 0 0) (.slice none 0 0) [] [] [] [] :=
  ⟨own_nil _ _ _ _ _ _, own_nil _ _ _ _ _ _, own_nil _ _ _ _ _ _, own_nil _ _ _ _ _ _, apart_nil_right _, apart_nil_right _, apart_nil_right _, apart_nil_right _, apart_nil_right _, apart_nil_right _, Kept.refl _ _ _ _, Nat.le_refl _⟩

theorem rows3_nil (w : World) : Rows3 w w (.slice none 0 0) (.slice none 0 0) (.slice none 0 0) [] [] [] := ⟨four_nil w, Below.refl _ _⟩

theorem Rows3.of {w5 wi w : World} {ov nv ev ov' sv' nv' ev' : Value} {out ns es out' stk ns' es' : List Int} (R : Rows3 w5 wi ov nv ev out ns es) (F : Four w5.heap.size wi ov nv ev w ov' sv' nv' ev' out' stk ns' es') : Rows3 w5 w ov' nv' ev' out' ns' es' :=
  ⟨F.rebase, F.kept.below R.bel F.base (fun x h => (R.four.o.own.lt x h).1) (fun x h => (R.four.n.own.lt x h).1) (fun x h => (R.four.e.own.lt x h).1)⟩

/-- What a row of the three is, and its cells. -/
theorem Own.cells {B : Nat} {wi w : World} {v0 v : Value} {e : TypeId} {k : IntKind} {l : List Int} (O : Own B wi v0 w e k v l) : ∃ ao c, v = .slice ao l.length c ∧ (0 < l.length → ∃ g, ao = some ⟨g, 0, none⟩ ∧ ∀ i, i < l.length → w.cell? ⟨g, i, none⟩ = some (.int k (l.getD i 0))) := by
  by_cases h0 : 0 < l.length
  · obtain ⟨g, cap, rfl, _, _⟩ := O.own.form h0
    refine ⟨_, _, rfl, fun _ => ⟨g, rfl, fun i hi => ?_⟩⟩
    rw [O.own.cellAt i (by omega)]
    simp [List.getD, hi]
  · obtain ⟨ao, c, e⟩ := O.shape
    exact ⟨ao, c, e, fun h => absurd h h0⟩

end Go.Proofs.Qxb6000404a
