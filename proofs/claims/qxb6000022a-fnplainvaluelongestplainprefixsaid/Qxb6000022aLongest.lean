import Derived.Test.Qxb6000022aPv
namespace Go.Proofs.Qxb6000022a
open Go.RowKit

theorem bytes16_yes (A : Option Addr) (n c : Nat) (i : Int) (w : World) (hn : n ≤ 1048576) :
    Calls Try.prog 16 #[.slice A n c, .int .i64 i] w fun e w' => e = .returned (.bool true) ∧ w' = w := by
  go_enter Try.func16, Try.ntmps16
  go_wp2
  go_ret
  exact ⟨rfl, rfl⟩

theorem bytes16_no (A : Option Addr) (n c : Nat) (i : Int) (w : World) (hn : 1048576 < n) :
    Calls Try.prog 16 #[.slice A n c, .int .i64 i] w fun e w' => e = .returned (.bool false) ∧ w' = w := by
  go_enter Try.func16, Try.ntmps16
  go_wp2
  go_ret
  exact ⟨rfl, rfl⟩

/-- Too long, or i out of range: true at once. -/
theorem longest_out (A : Option Addr) (n c : Nat) (i : Int) (w : World) (h : 4096 < n ∨ i < 0 ∨ (n : Int) < i) :
    Calls Try.prog 6 #[.slice A n c, .int .i64 i] w fun e w' => e = .returned (.bool true) ∧ Below w.heap.size w w' := by
  by_cases h20 : n ≤ 1048576
  · by_cases h16 : 4096 < n
    · clear h
      go_enter Try.func6, Try.ntmps6
      go_wp2_with (go_at_call 16; refine (bytes16_yes _ _ _ _ _ h20).mono ?_; rintro e w' ⟨rfl, hw'⟩; subst w')
      go_ret
      exact ⟨rfl, Below.refl _ _⟩
    · by_cases hi : i < 0
      · clear h
        go_enter Try.func6, Try.ntmps6
        go_wp2_with (go_at_call 16; refine (bytes16_yes _ _ _ _ _ h20).mono ?_; rintro e w' ⟨rfl, hw'⟩; subst w')
        go_ret
        exact ⟨rfl, Below.refl _ _⟩
      · have h2 : (n : Int) < i := by omega
        clear h
        go_enter Try.func6, Try.ntmps6
        go_wp2_with (go_at_call 16; refine (bytes16_yes _ _ _ _ _ h20).mono ?_; rintro e w' ⟨rfl, hw'⟩; subst w')
        go_ret
        exact ⟨rfl, Below.refl _ _⟩
  · clear h
    have h20' : 1048576 < n := by omega
    go_enter Try.func6, Try.ntmps6
    go_wp2_with (go_at_call 16; refine (bytes16_no _ _ _ _ _ h20').mono ?_; rintro e w' ⟨rfl, hw'⟩; subst w')
    go_ret
    exact ⟨rfl, Below.refl _ _⟩

/-- ZZplainValue of nil. -/
theorem zpv_nil (w : World) :
    Calls Try.prog 18 #[.slice none 0 0, .int .i64 0] w fun e w' => e = .returned (.tuple #[.slice none 0 0, .int .i64 (-1)]) ∧ w' = w := by
  go_enter Try.func18, Try.ntmps18
  go_wp2
  go_ret2
  exact ⟨rfl, rfl⟩

/-- nil. -/
theorem longest_nil (w : World) :
    Calls Try.prog 6 #[.slice none 0 0, .int .i64 0] w fun e w' => e = .returned (.bool true) ∧ Below w.heap.size w w' := by
  have h1 := fun w => Lib.run_eql_slice_nil (P := Try.prog) w 22 5 none 0 0 0 0 Try.underlying22
  go_enter Try.func6, Try.ntmps6
  go_wp2_with (first
    | (go_at_call 16; refine (bytes16_yes _ _ _ _ _ (by omega)).mono ?_; rintro e w' ⟨rfl, hw'⟩; subst w')
    | (go_at_call 9; refine (clone_nil _).mono ?_; rintro e w' ⟨rfl, hw'⟩; subst w'))
  refine wp_loop_rounds 1 ?_
  rw [rounds_succ]
  go_wp2_with (go_at_call 18; refine (zpv_nil _).mono ?_; rintro e w' ⟨rfl, hw'⟩; subst w')
  go_ret
  exact ⟨rfl, Below.refl _ _⟩

/-- What 'best' holds when the lengths below l have been tried. -/
def BestTo (y : Nat → Int) (l : Nat) (v : Int) : Prop :=
  (v = -1 ∧ ∀ l', 1 ≤ l' → l' < l → ¬ Txt y l') ∨ ∃ l0 : Nat, v = (l0 : Int) ∧ 1 ≤ l0 ∧ l0 < l ∧ Txt y l0 ∧ ∀ l', l0 < l' → l' < l → ¬ Txt y l'

theorem bestTo_hit {y : Nat → Int} {l : Nat} (h1 : 1 ≤ l) (h : Txt y l) : BestTo y (l + 1) (l : Int) :=
  .inr ⟨l, rfl, h1, by omega, h, fun l' a b => by omega⟩

theorem bestTo_miss {y : Nat → Int} {l : Nat} {v : Int} (h : ¬ Txt y l) (k : BestTo y l v) : BestTo y (l + 1) v := by
  rcases k with ⟨hv, k⟩ | ⟨l0, hv, k1, k2, k3, k4⟩
  · refine .inl ⟨hv, fun l' a b => ?_⟩
    by_cases e : l' = l
    · subst e; exact h
    · exact k l' a (by omega)
  · refine .inr ⟨l0, hv, k1, by omega, k3, fun l' a b => ?_⟩
    by_cases e : l' = l
    · subst e; exact h
    · exact k4 l' a (by omega)

theorem bestTo_end {y : Nat → Int} {N : Nat} {v : Int} (h : BestTo y (N + 1) v) : (v = -1 ∧ NoTxt y N) ∨ ∃ l0 : Nat, v = (l0 : Int) ∧ Best y N l0 := by
  rcases h with ⟨hv, k⟩ | ⟨l0, hv, k1, k2, k3, k4⟩
  · exact .inl ⟨hv, fun l a b => k l a (by omega)⟩
  · exact .inr ⟨l0, hv, k1, by omega, k3, fun l' a b => k4 l' a (by omega)⟩

set_option maxHeartbeats 2000000 in
theorem longest_some (A : Addr) (n c i : Nat) (z : Nat → Int) (w : World) (hn : n ≤ 4096) (hi : i ≤ n) (hb : ∀ i, i < n → w.cell? (A.add i) = some (.int .u8 (z i))) (hz : ∀ i, i < n → 0 ≤ z i ∧ z i ≤ 255) :
    Calls Try.prog 6 #[.slice (some A) n c, .int .i64 i] w fun e w' => e = .returned (.bool true) ∧ Below w.heap.size w w' := by
  have hq := fun w a b c => Lib.run_eql_slice_nil (P := Try.prog) w 22 5 a b c 0 0 Try.underlying22
  have h20 : n ≤ 1048576 := by omega
  have HZ : Hid (∀ i, i < n → 0 ≤ z i ∧ z i ≤ 255) := hz
  clear hz
  go_enter Try.func6, Try.ntmps6
  go_wp2_with (go_at_call 16; refine (bytes16_yes _ _ _ _ _ h20).mono ?_; rintro e w' ⟨rfl, hw'⟩; subst w')
  refine (clone_some A n c z _ h20 hb).mono ?_
  rintro e w1 ⟨rfl, hrow, hsz, hbel⟩
  have hb1 : ∀ j, j < n → w1.cell? ⟨w.heap.size, j, none⟩ = some (.int .u8 (z j)) := fun j hj => hrow.cell hj
  have HC : Hid (∀ j, j < n → w1.cell? ⟨w.heap.size, 0 + j, none⟩ = some (.int .u8 (z j))) := fun j hj => by rw [Nat.zero_add]; exact hb1 j hj
  have HB : Hid (Below w.heap.size w w1) := hbel
  clear hrow hsz hbel hb
  go_wp2
  go_loopw [5, 6] (fun s t wr => ∃ (l : Nat) (v : Int), 1 ≤ l ∧ l ≤ n - i + 1 ∧ s = .int .i64 v ∧ t = .int .i64 l ∧ (∃ m, wr = w1.drewN m) ∧ BestTo (fun k => z (i + k)) l v) (fun _ t _ => n + 1 - (intOf t).toNat)
  case atStart => exact ⟨1, -1, by omega, by omega, rfl, rfl, ⟨0, rfl⟩, .inl ⟨rfl, fun l' a b => by omega⟩⟩
  case round =>
    obtain ⟨l, v, hl1, hl2, rfl, rfl, ⟨m, rfl⟩, hv⟩ := hrel
    have HV : Hid (BestTo (fun k => z (i + k)) l v) := hv
    clear hv
    by_cases hle : l ≤ n - i
    · have hle' : (l : Int) ≤ (n : Int) - (i : Int) := by omega
      go_wp2_with fail
      refine (isText_any w.heap.size i l (n - i) (fun k => z (i + k)) (w1.drewN m) (by omega) hl1 (fun j hj => ?_)).mono ?_
      · have := hb1 (i + j) (by omega)
        simpa using this
      rintro e w2 ⟨r, rfl, ⟨m', hw2⟩, hr⟩
      subst w2
      cases r
      · have HN : Hid (¬ Txt (fun k => z (i + k)) l) := fun h => by have := hr.2 h; cases this
        clear hr
        go_wp2
        go_roundw
        case rel => exact ⟨l + 1, v, by omega, by omega, rfl, by go_num, ⟨_, rfl⟩, bestTo_miss HN.out HV.out⟩
        case measure => simp [intOf]; omega
      · have HY : Hid (Txt (fun k => z (i + k)) l) := hr.1 rfl
        clear hr
        go_wp2
        go_roundw
        case rel => exact ⟨l + 1, (l : Int), by omega, by omega, rfl, by go_num, ⟨_, rfl⟩, bestTo_hit hl1 HY.out⟩
        case measure => simp [intOf]; omega
    · have hle' : ¬ (l : Int) ≤ (n : Int) - (i : Int) := by omega
      have hE := bestTo_end (N := n - i) (by rw [show n - i + 1 = l by omega]; exact HV.out)
      go_wp2_with fail
      refine (zpv_any w.heap.size 0 n n i z (w1.drewN m) (by omega) (Nat.le_refl _) hi (fun j hj => HC.out j hj) HZ.out).mono ?_
      rintro e w2 ⟨hb2, ⟨l1, hB, rfl⟩ | ⟨hB, rfl⟩⟩
      · rcases hE with ⟨_, hno⟩ | ⟨l0, hv, hB0⟩
        · exact (best_not_no hB hno).elim
        · have e0 := best_unique hB hB0
          subst e0
          subst hv
          have B1 := hB.1
          have B2 := hB.2.1
          have BB : Hid (Below w.heap.size w w2) := (below_drewN HB.out m).trans (hb2.mono HB.out.size)
          have hb2' : ∀ t, t < l1 → w2.cell? ⟨w.heap.size, i + t, none⟩ = some (.int .u8 (z (i + t))) := fun t ht => cell_later hb2 (hb1 (i + t) (by omega))
          clear hB hB0 hb2
          go_wp2_with fail
          refine (same_yes w.heap.size i _ w.heap.size i _ l1 (fun t => z (i + t)) w2 (by omega) hb2' hb2').mono ?_
          rintro e w3 ⟨rfl, m3, hw3⟩
          subst w3
          go_wp2
          go_ret
          exact ⟨rfl, below_drewN BB.out m3⟩
      · rcases hE with ⟨hv, _⟩ | ⟨l0, hv, hB0⟩
        · subst hv
          have BB : Hid (Below w.heap.size w w2) := (below_drewN HB.out m).trans (hb2.mono HB.out.size)
          clear hB hb2
          go_wp2
          go_ret
          exact ⟨rfl, BB.out⟩
        · exact (best_not_no hB0 hB).elim

end Go.Proofs.Qxb6000022a
