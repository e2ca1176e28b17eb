import Derived.Test.Qxb6000404aSkip
namespace Go.Proofs.Qxb6000404a
open Go.RowKit

set_option maxRecDepth 100000 in
set_option maxHeartbeats 1000000 in
/-- ZZSkipValue hands skipValue on. -/
theorem zskip_any (Cb b o L c p0 N kb kc pf jf j0 m0 r0 : Nat) (base : Int) (ao : Option Addr) (cv : Value) (t S E : Nat → Int) (w : World) (hL : L ≤ 67108864) (hN : N ≤ 4194304) (hb0 : 0 ≤ base) (hb1 : base ≤ 1048576)
    (hcv : w.cell? ⟨Cb, 11, none⟩ = some cv) (hv : ∀ j, j < N → NoteV w cv j (S j) (E j)) (hk : ∀ j, j < N → w.cell? ⟨kb, j, none⟩ = some (.int .i32 j)) (ht : ∀ i, i < L → w.cell? ⟨b, o + i, none⟩ = some (.int .u8 (t i)))
    (hSb : ∀ j, j < N → 0 ≤ S j ∧ S j ≤ 2147483647) (hR : Reach t L S E N base pf jf m0 p0 0 j0) (hrk : r0 ≤ kc) (hrj : r0 + j0 = N) (hao : 0 < r0 → ao = some ⟨kb, j0, none⟩) :
    Calls Try.prog 20 #[.pointer (some ⟨Cb, 0, none⟩), .slice (some ⟨b, o, none⟩) L c, .int .i64 p0, .int .i64 base, .slice ao r0 kc] w fun e w' =>
      ∃ (ao' : Option Addr) (r kr : Nat), e = .returned (.tuple #[.int .i64 pf, .slice ao' r kr]) ∧ r ≤ kr ∧ r + jf = N ∧ (0 < r → ao' = some ⟨kb, jf, none⟩) ∧ Below w.heap.size w w' := by
  have C := skipValue_any Cb b o L c p0 N kb kc pf jf j0 m0 r0 base ao cv t S E w hL hN hb0 hb1 hcv hv hk ht hSb hR hrk hrj hao
  have HC := Hid.out (p := _) C
  clear hcv hv hk ht hSb hR hrj hao C
  have H : Hid (Calls Try.prog 25 #[.pointer (some ⟨Cb, 0, none⟩), .slice (some ⟨b, o, none⟩) L c, .int .i64 p0, .int .i64 base, .slice ao r0 kc] w fun e w' =>
      ∃ (ao' : Option Addr) (r kr : Nat), e = .returned (.tuple #[.int .i64 pf, .slice ao' r kr]) ∧ r ≤ kr ∧ r + jf = N ∧ (0 < r → ao' = some ⟨kb, jf, none⟩) ∧ Below w.heap.size w w') := HC
  clear HC
  go_enter Try.func20, Try.ntmps20
  go_wp2_with fail
  refine H.out.mono ?_
  rintro e w1 ⟨ao', r, kr, rfl, h1, h2, h3, h4⟩
  have R : Hid (r ≤ kr ∧ r + jf = N ∧ (0 < r → ao' = some ⟨kb, jf, none⟩) ∧ Below w.heap.size w w1) := ⟨h1, h2, h3, h4⟩
  clear h1 h2 h3 h4
  go_wp2
  go_ret2
  exact ⟨ao', r, kr, rfl, R.out.1, R.out.2.1, R.out.2.2.1, R.out.2.2.2⟩

set_option maxHeartbeats 1000000 in
/-- zzNoteList without a note. -/
theorem notes_zero (A1 A2 : Option Addr) (c1 c2 : Nat) (w : World) :
    Calls Try.prog 23 #[.slice A1 0 c1, .slice A2 0 c2] w fun e w' => e = .returned (.agg #[.slice none 0 0, .int .i64 0]) ∧ Below w.heap.size w w' := by
  go_enter Try.func23, Try.ntmps23
  go_wp2_with fail
  refine wp_loop_rounds 1 ?_
  rw [rounds_succ]
  go_wp2
  refine bodyPost_ret (v := .agg #[.slice none 0 0, .int .i64 0]) (by simp [results, Try.results23, go_sem]) rfl ⟨rfl, ?_⟩
  exact ((Below.refl _ _).alloc (Nat.le_refl _) _).alloc (by simp) _

/-- zzNoteList, however many notes. -/
theorem notes_gen (A1 A2 : Option Addr) (c1 c2 n : Nat) (S E : Nat → Int) (w : World) (hn : n ≤ 4194304)
    (hS : 0 < n → ∃ b o, A1 = some ⟨b, o, none⟩ ∧ ∀ i, i < n → w.cell? ⟨b, o + i, none⟩ = some (.int .i32 (S i))) (hE : 0 < n → ∃ b o, A2 = some ⟨b, o, none⟩ ∧ ∀ i, i < n → w.cell? ⟨b, o + i, none⟩ = some (.int .i32 (E i))) :
    Calls Try.prog 23 #[.slice A1 n c1, .slice A2 n c2] w fun e w' =>
      ∃ (ao : Option Addr) (an ac : Nat), e = .returned (.agg #[.slice ao an ac, .int .i64 n]) ∧ (∀ i, i < n → NoteV w' (.slice ao an ac) i (S i) (E i)) ∧ Below w.heap.size w w' := by
  by_cases h0 : n = 0
  · subst h0
    refine (notes_zero A1 A2 c1 c2 w).mono ?_
    rintro e w' ⟨rfl, hb⟩
    exact ⟨none, 0, 0, rfl, fun i hi => by omega, hb⟩
  · obtain ⟨b1, o1, rfl, h1⟩ := hS (by omega)
    obtain ⟨b2, o2, rfl, h2⟩ := hE (by omega)
    refine (notes_any b1 o1 c1 b2 o2 c2 n S E w hn h1 h2).mono ?_
    rintro e w' ⟨cv, rfl, hv, hb⟩
    obtain ⟨g, nc, cap, _, _, _, rfl, _⟩ := hv 0 (by omega)
    exact ⟨_, _, _, rfl, hv, hb⟩

/-- A converter as it is made. -/
abbrev conv0 : Obj := .cells #[.slice none 0 0, .slice none 0 0, .int .i64 0, .int .i64 0, .int .i64 0, .int .i64 0, .int .i64 0, .int .i64 0, .int .i64 0, .slice none 0 0, .slice none 0 0, .slice none 0 0, .int .i64 0, .slice none 0 0, .slice none 0 0, .slice none 0 0, .slice none 0 0, .slice none 0 0, .slice none 0 0, .slice none 0 0] 51

theorem conv_cells (w : World) (k : Nat) (v : Value) (h : (w.alloc conv0).cell? ⟨w.heap.size, k, none⟩ = some v) : v = .slice none 0 0 ∨ v = .int .i64 0 := by
  have hm : v ∈ [Value.slice none 0 0, .slice none 0 0, .int .i64 0, .int .i64 0, .int .i64 0, .int .i64 0, .int .i64 0, .int .i64 0, .int .i64 0, .slice none 0 0, .slice none 0 0, .slice none 0 0, .int .i64 0, .slice none 0 0, .slice none 0 0, .slice none 0 0, .slice none 0 0, .slice none 0 0, .slice none 0 0, .slice none 0 0] := by
    simp only [World.cell?, conv0] at h
    rw [heap_alloc_new] at h
    simp only at h
    have h' := List.mem_of_getElem? (by simpa using h)
    exact h'
  simp at hm
  rcases hm with h | h | h | h | h
  · exact .inl h
  · exact .inr h
  · exact .inl h
  · exact .inr h
  · exact .inl h

set_option maxRecDepth 100000 in
set_option maxHeartbeats 1000000 in
/-- ZZNewNoted: a converter whose notes can be read. -/
theorem newNoted_any (A1 A2 : Option Addr) (c1 c2 n : Nat) (S E : Nat → Int) (w : World) (hn : n ≤ 4194304)
    (hS : 0 < n → ∃ b o, A1 = some ⟨b, o, none⟩ ∧ ∀ i, i < n → w.cell? ⟨b, o + i, none⟩ = some (.int .i32 (S i))) (hE : 0 < n → ∃ b o, A2 = some ⟨b, o, none⟩ ∧ ∀ i, i < n → w.cell? ⟨b, o + i, none⟩ = some (.int .i32 (E i))) :
    Calls Try.prog 19 #[.slice A1 n c1, .slice A2 n c2] w fun e w' =>
      ∃ cv, e = .returned (.pointer (some ⟨w.heap.size, 0, none⟩)) ∧ w'.cell? ⟨w.heap.size, 11, none⟩ = some cv ∧ (∀ i, i < n → NoteV w' cv i (S i) (E i)) ∧ Below w.heap.size w w' := by
  have HS : Hid (0 < n → ∃ b o, A1 = some ⟨b, o, none⟩ ∧ ∀ i, i < n → w.cell? ⟨b, o + i, none⟩ = some (.int .i32 (S i))) := hS
  have HE : Hid (0 < n → ∃ b o, A2 = some ⟨b, o, none⟩ ∧ ∀ i, i < n → w.cell? ⟨b, o + i, none⟩ = some (.int .i32 (E i))) := hE
  clear hS hE
  go_enter Try.func19, Try.ntmps19
  have hbA : Below w.heap.size w (w.alloc conv0) := (Below.refl _ _).alloc (Nat.le_refl _) _
  have HBA : Hid (Below w.heap.size w (w.alloc conv0)) := hbA
  clear hbA
  go_wp2_with fail
  refine (notes_gen A1 A2 c1 c2 n S E (w.alloc conv0) hn (fun h => ?_) (fun h => ?_)).mono ?_
  · obtain ⟨b, o, e, hc⟩ := HS.out h
    exact ⟨b, o, e, fun i hi => cell_later HBA.out (hc i hi)⟩
  · obtain ⟨b, o, e, hc⟩ := HE.out h
    exact ⟨b, o, e, fun i hi => cell_later HBA.out (hc i hi)⟩
  rintro e w1 ⟨ao, an, ac, rfl, hv, hb⟩
  have hblk : ∀ k, w1.cell? ⟨w.heap.size, k, none⟩ = (w.alloc conv0).cell? ⟨w.heap.size, k, none⟩ := fun k => hb.cell (p := ⟨w.heap.size, k, none⟩) (by simp)
  have hkey : Hid (∀ k v, w1.cell? ⟨w.heap.size, k, none⟩ = some v → v = .slice none 0 0 ∨ v = .int .i64 0) := fun k v h => conv_cells w k v (by rw [← hblk]; exact h)
  have z11 : w1.cell? ⟨w.heap.size, 11, none⟩ = some (.slice none 0 0) := by rw [hblk]; simp [conv0]
  have z12 : w1.cell? ⟨w.heap.size, 12, none⟩ = some (.int .i64 0) := by rw [hblk]; simp [conv0]
  have f11 : w1.frozen? ⟨w.heap.size, 11, none⟩ = false := (hb.frozen (p := ⟨w.heap.size, 11, none⟩) (by simp)).trans (by simp [conv0])
  have f12 : w1.frozen? ⟨w.heap.size, 12, none⟩ = false := (hb.frozen (p := ⟨w.heap.size, 12, none⟩) (by simp)).trans (by simp [conv0])
  have HV : Hid (∀ i, i < n → NoteV w1 (.slice ao an ac) i (S i) (E i)) := hv
  have HB : Hid (Below w.heap.size w w1) := HBA.out.trans (hb.mono (by simp))
  clear hv hb hblk
  go_wp2
  go_ret
  refine ⟨.slice ao an ac, rfl, ?_, fun i hi => ?_, (HB.out.setCell (Nat.le_refl _) _).setCell (Nat.le_refl _) _⟩
  · exact cell_set_other (by omega) (cell_set z11)
  · obtain ⟨g, nc, cap, hb', cn, cp, h1, h2, h3, h4, h5, h6⟩ := HV.out i hi
    have ng : w.heap.size ≠ g := fun e => by
      subst e
      rcases hkey.out _ _ h3 with h | h <;> cases h
    have nh : w.heap.size ≠ hb' := fun e => by
      subst e
      rcases hkey.out _ _ h5 with h | h <;> cases h
    refine ⟨g, nc, cap, hb', cn, cp, h1, h2, ?_, h4, ?_, ?_⟩
    · rw [World.cell?_setCell_far _ _ _ _ (by exact ng), World.cell?_setCell_far _ _ _ _ (by exact ng)]; exact h3
    · rw [World.cell?_setCell_far _ _ _ _ (by exact nh), World.cell?_setCell_far _ _ _ _ (by exact nh)]; exact h5
    · rw [World.cell?_setCell_far _ _ _ _ (by exact nh), World.cell?_setCell_far _ _ _ _ (by exact nh)]; exact h6

end Go.Proofs.Qxb6000404a
