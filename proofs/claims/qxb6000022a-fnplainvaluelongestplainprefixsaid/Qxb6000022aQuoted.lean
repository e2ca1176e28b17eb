import Derived.Test.Qxb6000022aClone
namespace Go.Proofs.Qxb6000022a
open Go.RowKit

/-- The slice's elements are the numbers Z (whatever its address; nil: none). -/
structure Reads (w : World) (A : Option Addr) (c : Nat) (Z : List Int) : Prop where
  nil : A = none → Z.length = 0 ∧ c = 0
  le : Z.length ≤ c
  cell : ∀ a, A = some a → ∀ i, i < Z.length → w.cell? (a.add i) = some (.int .u8 (Z.getD i 0))

theorem Reads.keep {w w' : World} {A : Option Addr} {c : Nat} {Z : List Int} (h : Reads w A c Z) (hb : Below w.heap.size w w') : Reads w' A c Z :=
  ⟨h.nil, h.le, fun a ha i hi => cell_later hb (h.cell a ha i hi)⟩

theorem Reads.news {w : World} {A : Option Addr} {c : Nat} {Z : List Int} (h : Reads w A c Z) : ∀ ad, A = some ad → ∀ j u, (Z.map (Value.int .u8))[j]? = some u → w.cell? (ad.add j) = some u := by
  intro ad had j u hu
  have hj : j < Z.length := by
    have := (List.getElem?_eq_some_iff.1 hu).1
    simpa using this
  rw [h.cell ad had j hj, ← hu]
  simp [List.getD, hj]

set_option maxHeartbeats 1000000 in
/-- zzQuoted: a new row: prefix, quote, content, quote, suffix. -/
theorem quoted_any (A1 A2 A3 : Option Addr) (c1 c2 c3 n1 n2 n3 : Nat) (Z1 Z2 Z3 : List Int) (w : World) (e1 : Z1.length = n1) (e2 : Z2.length = n2) (e3 : Z3.length = n3) (h1 : n1 ≤ 1048576) (h2 : n2 ≤ 1048576) (h3 : n3 ≤ 1048576)
    (r1 : Reads w A1 c1 Z1) (r2 : Reads w A2 c2 Z2) (r3 : Reads w A3 c3 Z3) :
    Calls Try.prog 14 #[.slice A1 n1 c1, .slice A2 n2 c2, .slice A3 n3 c3] w fun e w' =>
      e = .returned (.slice (some ⟨w.heap.size, 0, none⟩) (n1 + n2 + n3 + 2) (n1 + n2 + n3 + 2)) ∧ w'.ownsRow w.heap.size 5 1 (.slice (some ⟨w.heap.size, 0, none⟩) (n1 + n2 + n3 + 2) (n1 + n2 + n3 + 2)) (n1 + n2 + n3 + 2) ((Z1 ++ 34 :: (Z2 ++ 34 :: Z3)).map (Value.int .u8)) ∧ Below w.heap.size w w' := by
  obtain ⟨i0, hi, hz0, hz1, hz2⟩ := info_parts Try.info5
  have E : Hid (Z1.length = n1 ∧ Z2.length = n2 ∧ Z3.length = n3) := ⟨e1, e2, e3⟩
  clear e1 e2 e3
  go_enter Try.func14, Try.ntmps14
  go_wp2_with (at_make; refine wpList_make_own _ rfl _ _ 22 rfl w.heap.size 5 i0 (.int .u8 0) 1 Try.underlying22 hi hz0 hz1 _ _ _ (n1 + n2 + n3 + 2) rfl rfl (by omega) ?b2 ?b3 (Nat.le_refl _) ?_)
  case b2 => rw [hz2]; omega
  case b3 => unfold maxLen; omega
  intro w0 hown0 hgrow0
  have hb0 : Below w.heap.size w w0 := (Below.refl _ _).grown hgrow0 (Nat.le_refl _) (fun k h => by cases h)
  have hs0 : w.heap.size ≤ w0.heap.size := hb0.size
  go_wp2_with (first
    | (at_builtin; refine wpList_append_fits_any _ rfl (.tmp 18) (.tmp 19) 22 rfl w.heap.size 5 i0 1 Try.underlying22 hi hz1 w.heap.size 0 (n1 + n2 + n3 + 2) _ rfl hown0 _ n1 _ (Z1.map (Value.int .u8)) rfl (by have := E.out; simp; omega) (by intro h; have := r1.nil h; have := E.out; omega) (r1.keep hb0).news (ints_oneCell _ _) (by omega) ?_; intro w1 hown1 hgrow1; simp only [Nat.zero_add, List.nil_append] at hown1; have hb1 := hb0.grown hgrow1 hb0.size (fun k hk => by cases hk; exact Nat.le_refl _); have hs1 := hb1.size)
    | (at_builtin; refine wpList_append_fits _ rfl (.tmp 21) (.tmp 22) 22 rfl w.heap.size 5 i0 1 Try.underlying22 hi hz1 w.heap.size n1 (n1 + n2 + n3 + 2) _ rfl (hown1.alloc _) ⟨w1.heap.size, 0, none⟩ 1 1 [.int .u8 34] rfl rfl (cell_one_new _ _ _) (by intro u hu; simp at hu; subst hu; rfl) (by omega) ?_; intro w2 hown2 hgrow2; have hb2 := (hb1.alloc hs1 _).grown hgrow2 (by simp; omega) (fun k hk => by cases hk; exact Nat.le_refl _); have hs2 := hb2.size)
    | (at_builtin; refine wpList_append_fits_any _ rfl (.tmp 24) (.tmp 25) 22 rfl w.heap.size 5 i0 1 Try.underlying22 hi hz1 w.heap.size (n1 + 1) (n1 + n2 + n3 + 2) _ rfl hown2 _ n2 _ (Z2.map (Value.int .u8)) rfl (by have := E.out; simp; omega) (by intro h; have := r2.nil h; have := E.out; omega) (r2.keep hb2).news (ints_oneCell _ _) (by omega) ?_; intro w3 hown3 hgrow3; have hb3 := hb2.grown hgrow3 hs2 (fun k hk => by cases hk; exact Nat.le_refl _); have hs3 := hb3.size)
    | (at_builtin; refine wpList_append_fits _ rfl (.tmp 27) (.tmp 28) 22 rfl w.heap.size 5 i0 1 Try.underlying22 hi hz1 w.heap.size (n1 + 1 + n2) (n1 + n2 + n3 + 2) _ rfl (hown3.alloc _) ⟨w3.heap.size, 0, none⟩ 1 1 [.int .u8 34] rfl rfl (cell_one_new _ _ _) (by intro u hu; simp at hu; subst hu; rfl) (by omega) ?_; intro w4 hown4 hgrow4; have hb4 := (hb3.alloc hs3 _).grown hgrow4 (by simp; omega) (fun k hk => by cases hk; exact Nat.le_refl _); have hs4 := hb4.size)
    | (at_builtin; refine wpList_append_fits_any _ rfl (.tmp 30) (.tmp 31) 22 rfl w.heap.size 5 i0 1 Try.underlying22 hi hz1 w.heap.size (n1 + 1 + n2 + 1) (n1 + n2 + n3 + 2) _ rfl hown4 _ n3 _ (Z3.map (Value.int .u8)) rfl (by have := E.out; simp; omega) (by intro h; have := r3.nil h; have := E.out; omega) (r3.keep hb4).news (ints_oneCell _ _) (by omega) ?_; intro w5 hown5 hgrow5; have hb5 := hb4.grown hgrow5 hs4 (fun k hk => by cases hk; exact Nat.le_refl _)))
  go_ret
  have e : n1 + 1 + n2 + 1 + n3 = n1 + n2 + n3 + 2 := by omega
  rw [e] at hown5
  refine ⟨?_, by simpa using hown5, hb5⟩
  show Ending.returned (Value.slice _ (n1 + 1 + n2 + 1 + n3) _) = _
  rw [e]

end Go.Proofs.Qxb6000022a
