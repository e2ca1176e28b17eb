import Derived.Test.Qxb6000022aPs
import Derived.Test.Qxb6000022aSame
namespace Go.Proofs.Qxb6000022a
open Go.RowKit

theorem bytes8_yes (A : Option Addr) (n c : Nat) (i : Int) (w : World) (hn : n ≤ 1048576) :
    Calls Try.prog 8 #[.slice A n c, .int .i64 i] w fun e w' => e = .returned (.bool true) ∧ w' = w := by
  go_enter Try.func8, Try.ntmps8
  go_wp2
  go_ret
  exact ⟨rfl, rfl⟩

theorem bytes8_no (A : Option Addr) (n c : Nat) (i : Int) (w : World) (hn : 1048576 < n) :
    Calls Try.prog 8 #[.slice A n c, .int .i64 i] w fun e w' => e = .returned (.bool false) ∧ w' = w := by
  go_enter Try.func8, Try.ntmps8
  go_wp2
  go_ret
  exact ⟨rfl, rfl⟩

/-- Too long, or i out of range: true at once. -/
theorem first_out (A : Option Addr) (n c : Nat) (i : Int) (w : World) (h : 65536 < n ∨ i < 0 ∨ (n : Int) < i) :
    Calls Try.prog 3 #[.slice A n c, .int .i64 i] w fun e w' => e = .returned (.bool true) ∧ Below w.heap.size w w' := by
  by_cases h20 : n ≤ 1048576
  · by_cases h16 : 65536 < n
    · clear h
      go_enter Try.func3, Try.ntmps3
      go_wp2_with (go_at_call 8; refine (bytes8_yes _ _ _ _ _ h20).mono ?_; rintro e w' ⟨rfl, hw'⟩; subst w')
      go_ret
      exact ⟨rfl, Below.refl _ _⟩
    · by_cases hi : i < 0
      · clear h
        go_enter Try.func3, Try.ntmps3
        go_wp2_with (go_at_call 8; refine (bytes8_yes _ _ _ _ _ h20).mono ?_; rintro e w' ⟨rfl, hw'⟩; subst w')
        go_ret
        exact ⟨rfl, Below.refl _ _⟩
      · have h2 : (n : Int) < i := by omega
        clear h
        go_enter Try.func3, Try.ntmps3
        go_wp2_with (go_at_call 8; refine (bytes8_yes _ _ _ _ _ h20).mono ?_; rintro e w' ⟨rfl, hw'⟩; subst w')
        go_ret
        exact ⟨rfl, Below.refl _ _⟩
  · clear h
    have h20' : 1048576 < n := by omega
    go_enter Try.func3, Try.ntmps3
    go_wp2_with (go_at_call 8; refine (bytes8_no _ _ _ _ _ h20').mono ?_; rintro e w' ⟨rfl, hw'⟩; subst w')
    go_ret
    exact ⟨rfl, Below.refl _ _⟩

/-- nil. -/
theorem first_nil (w : World) :
    Calls Try.prog 3 #[.slice none 0 0, .int .i64 0] w fun e w' => e = .returned (.bool true) ∧ Below w.heap.size w w' := by
  have h1 := fun w => Lib.run_eql_slice_nil (P := Try.prog) w 22 5 none 0 0 0 0 Try.underlying22
  go_enter Try.func3, Try.ntmps3
  go_wp2_with (first
    | (go_at_call 8; refine (bytes8_yes _ _ _ _ _ (by omega)).mono ?_; rintro e w' ⟨rfl, hw'⟩; subst w')
    | (go_at_call 9; refine (clone_nil _).mono ?_; rintro e w' ⟨rfl, hw'⟩; subst w')
    | (go_at_call 10; refine (ps_nil _).mono ?_; rintro e w' ⟨rfl, hw'⟩; subst w'))
  go_ret
  exact ⟨rfl, Below.refl _ _⟩

set_option maxHeartbeats 1000000 in
/-- A plain string stands at i. -/
theorem first_yes (A : Addr) (n c i q : Nat) (z : Nat → Int) (w : World) (hn : n ≤ 65536) (hb : ∀ i, i < n → w.cell? (A.add i) = some (.int .u8 (z i))) (hF : Found z n i q) :
    Calls Try.prog 3 #[.slice (some A) n c, .int .i64 i] w fun e w' => e = .returned (.bool true) ∧ Below w.heap.size w w' := by
  have h1 := fun w a b c => Lib.run_eql_slice_nil (P := Try.prog) w 22 5 a b c 0 0 Try.underlying22
  have h2 := fun w a b c => run_neq_slice_nil_any (P := Try.prog) w 22 5 a b c 0 0 Try.underlying22
  have h20 : n ≤ 1048576 := by omega
  have hin : i < n := Nat.lt_trans hF.lt hF.qn
  have hne : ((i : Int) == (n : Int)) = false := by simp; omega
  have h34 : (z i != 34) = false := by simp [hF.h0]
  go_enter Try.func3, Try.ntmps3
  go_wp2_with (go_at_call 8; refine (bytes8_yes _ _ _ _ _ h20).mono ?_; rintro e w' ⟨rfl, hw'⟩; subst w')
  refine (clone_some A n c z _ h20 hb).mono ?_
  rintro e w1 ⟨rfl, hrow, hsz, hbel⟩
  have hb1 : ∀ i, i < n → w1.cell? ⟨w.heap.size, i, none⟩ = some (.int .u8 (z i)) := fun i hi => hrow.cell hi
  have HB : Hid (Below w.heap.size w w1) := hbel
  clear hrow hsz hbel hb
  go_wp2_with (go_at_call 10; refine (ps_yes w.heap.size 0 n n i q z _ (by omega) (by omega) (by simpa using hb1) hF).mono ?_; rintro e w' ⟨rfl, hw'⟩; subst w')
  obtain ⟨f1, f2, _, f4, f5⟩ := hF
  go_loop [8, 9] (fun s t => s = .int .i64 (-1) ∧ ∃ k : Nat, i < k ∧ k ≤ q ∧ t = .int .i64 k) (fun _ t => q - (intOf t).toNat)
  case atStart => exact ⟨rfl, i + 1, by omega, by omega, by go_num⟩
  case round =>
    obtain ⟨rfl, k, hk1, hk2, rfl⟩ := hrel
    have hkn : k < n := by omega
    by_cases hkq : k = q
    · subst hkq
      have f4' : (z k == 34) = true := by simp [f4]
      have F5 : Hid (∀ j, i < j → j < k → plain (z j)) := f5
      clear f4 f5
      go_wp2
      go_loop [10] (fun t => ∃ j : Nat, i < j ∧ j ≤ k ∧ t = .int .i64 j) (fun t => k - (intOf t).toNat)
      case atStart => exact ⟨i + 1, by omega, by omega, by go_num⟩
      case round =>
        obtain ⟨j, hj1, hj2, rfl⟩ := hrel
        by_cases hjk : j < k
        · obtain ⟨p1, p2, p3, p4⟩ := F5.out j hj1 hjk
          have hjn : j < n := by omega
          have p4' : (z j == 92) = false := by simp [p4]
          clear p3 p4
          go_wp2
          go_round
          case rel => exact ⟨j + 1, by omega, by omega, by go_num⟩
          case measure => simp [intOf]; omega
        · have hs : ∀ t, t < k - (i + 1) → w1.cell? ⟨w.heap.size, (i + 1) + t, none⟩ = some (.int .u8 (z ((i + 1) + t))) := fun t ht => hb1 _ (by omega)
          go_wp2_with fail
          refine (same_yes w.heap.size (i + 1) _ w.heap.size (i + 1) _ (k - (i + 1)) (fun t => z ((i + 1) + t)) _ (by omega) hs hs).mono ?_
          rintro e w2 ⟨rfl, m, hw2⟩
          subst w2
          go_wp2
          go_ret
          exact ⟨rfl, below_drewN HB.out m⟩
    · have hp := f5 k hk1 (by omega)
      have p3' : (z k == 34) = false := by simp [hp.2.2.1]
      clear f5 hp
      go_wp2
      go_round
      case rel => exact ⟨rfl, k + 1, by omega, by omega, by go_num⟩
      case measure => simp [intOf]; omega

set_option maxHeartbeats 1000000 in
/-- No plain string stands at i. -/
theorem first_no (A : Addr) (n c i : Nat) (z : Nat → Int) (w : World) (hn : n ≤ 65536) (hi : i ≤ n) (hb : ∀ i, i < n → w.cell? (A.add i) = some (.int .u8 (z i))) (hF : ∀ q, ¬ Found z n i q) :
    Calls Try.prog 3 #[.slice (some A) n c, .int .i64 i] w fun e w' => e = .returned (.bool true) ∧ Below w.heap.size w w' := by
  have h1 := fun w a b c => Lib.run_eql_slice_nil (P := Try.prog) w 22 5 a b c 0 0 Try.underlying22
  have h20 : n ≤ 1048576 := by omega
  have HF : Hid (∀ q, ¬ Found z n i q) := hF
  clear hF
  by_cases hin : i = n
  · subst hin
    go_enter Try.func3, Try.ntmps3
    go_wp2_with (go_at_call 8; refine (bytes8_yes _ _ _ _ _ h20).mono ?_; rintro e w' ⟨rfl, hw'⟩; subst w')
    refine (clone_some A i c z _ h20 hb).mono ?_
    rintro e w1 ⟨rfl, hrow, hsz, hbel⟩
    have hb1 : ∀ j, j < i → w1.cell? ⟨w.heap.size, j, none⟩ = some (.int .u8 (z j)) := fun j hj => hrow.cell hj
    have HB : Hid (Below w.heap.size w w1) := hbel
    clear hrow hsz hbel hb
    go_wp2_with (go_at_call 10; refine (ps_no w.heap.size 0 i i i z _ (by omega) (by omega) (by omega) (by simpa using hb1) HF.out).mono ?_; rintro e w' ⟨rfl, hw'⟩; subst w')
    go_ret
    exact ⟨rfl, HB.out⟩
  have hin' : i < n := by omega
  have hne : ((i : Int) == (n : Int)) = false := by simp; omega
  by_cases h34 : z i = 34
  case neg =>
    have h34' : (z i != 34) = true := by simp [h34]
    go_enter Try.func3, Try.ntmps3
    go_wp2_with (go_at_call 8; refine (bytes8_yes _ _ _ _ _ h20).mono ?_; rintro e w' ⟨rfl, hw'⟩; subst w')
    refine (clone_some A n c z _ h20 hb).mono ?_
    rintro e w1 ⟨rfl, hrow, hsz, hbel⟩
    have hb1 : ∀ j, j < n → w1.cell? ⟨w.heap.size, j, none⟩ = some (.int .u8 (z j)) := fun j hj => hrow.cell hj
    have HB : Hid (Below w.heap.size w w1) := hbel
    clear hrow hsz hbel hb
    go_wp2_with (go_at_call 10; refine (ps_no w.heap.size 0 n n i z _ (by omega) (by omega) (by omega) (by simpa using hb1) HF.out).mono ?_; rintro e w' ⟨rfl, hw'⟩; subst w')
    go_ret
    exact ⟨rfl, HB.out⟩
  have h34' : (z i != 34) = false := by simp [h34]
  have H34 : Hid (z i = 34) := h34
  clear h34
  go_enter Try.func3, Try.ntmps3
  go_wp2_with (go_at_call 8; refine (bytes8_yes _ _ _ _ _ h20).mono ?_; rintro e w' ⟨rfl, hw'⟩; subst w')
  refine (clone_some A n c z _ h20 hb).mono ?_
  rintro e w1 ⟨rfl, hrow, hsz, hbel⟩
  have hb1 : ∀ j, j < n → w1.cell? ⟨w.heap.size, j, none⟩ = some (.int .u8 (z j)) := fun j hj => hrow.cell hj
  have HB : Hid (Below w.heap.size w w1) := hbel
  clear hrow hsz hbel hb
  go_wp2_with (go_at_call 10; refine (ps_no w.heap.size 0 n n i z _ (by omega) (by omega) (by omega) (by simpa using hb1) HF.out).mono ?_; rintro e w' ⟨rfl, hw'⟩; subst w')
  go_loop [8, 9] (fun s t => s = .int .i64 (-1) ∧ ∃ k : Nat, i < k ∧ k ≤ n ∧ t = .int .i64 k ∧ ∀ l, i < l → l < k → z l ≠ 34) (fun _ t => n - (intOf t).toNat)
  case atStart => exact ⟨rfl, i + 1, by omega, by omega, by go_num, fun l h1 h2 => by omega⟩
  case round =>
    obtain ⟨rfl, k, hk1, hk2, rfl, hnq⟩ := hrel
    have HN : Hid (∀ l, i < l → l < k → z l ≠ 34) := hnq
    clear hnq
    by_cases hkn : k < n
    · by_cases hk34 : z k = 34
      · have f4' : (z k == 34) = true := by simp [hk34]
        have K34 : Hid (z k = 34) := hk34
        clear hk34
        go_wp2
        go_loop [10] (fun t => ∃ j : Nat, i < j ∧ j ≤ k ∧ t = .int .i64 j ∧ ∀ l, i < l → l < j → 32 ≤ z l ∧ z l ≤ 126 ∧ z l ≠ 92) (fun t => k - (intOf t).toNat)
        case atStart => exact ⟨i + 1, by omega, by omega, by go_num, fun l h1 h2 => by omega⟩
        case round =>
          obtain ⟨j, hj1, hj2, rfl, hpl⟩ := hrel
          have HP : Hid (∀ l, i < l → l < j → 32 ≤ z l ∧ z l ≤ 126 ∧ z l ≠ 92) := hpl
          clear hpl
          by_cases hjk : j < k
          · have hjn : j < n := by omega
            by_cases c1 : z j < 32
            · go_wp2
              go_ret
              exact ⟨rfl, HB.out⟩
            by_cases c2 : 126 < z j
            · go_wp2
              go_ret
              exact ⟨rfl, HB.out⟩
            by_cases c3 : z j = 92
            · have c3' : (z j == 92) = true := by simp [c3]
              clear c3
              go_wp2
              go_ret
              exact ⟨rfl, HB.out⟩
            · have c3' : (z j == 92) = false := by simp [c3]
              have C3 : Hid (z j ≠ 92) := c3
              clear c3
              go_wp2
              go_round
              case rel =>
                refine ⟨j + 1, by omega, by omega, by go_num, fun l h1 h2 => ?_⟩
                by_cases e : l = j
                · subst e; exact ⟨by omega, by omega, C3.out⟩
                · exact HP.out l h1 (by omega)
              case measure => simp [intOf]; omega
          · exfalso
            refine HF.out k ⟨hk1, hkn, H34.out, K34.out, fun l h1 h2 => ?_⟩
            have hl := HP.out l h1 (by omega)
            exact ⟨hl.1, hl.2.1, HN.out l h1 h2, hl.2.2⟩
      · have f4' : (z k == 34) = false := by simp [hk34]
        have K34 : Hid (z k ≠ 34) := hk34
        clear hk34
        go_wp2
        go_round
        case rel =>
          refine ⟨rfl, k + 1, by omega, by omega, by go_num, fun l h1 h2 => ?_⟩
          by_cases e : l = k
          · subst e; exact K34.out
          · exact HN.out l h1 (by omega)
        case measure => simp [intOf]; omega
    · go_wp2
      go_ret
      exact ⟨rfl, HB.out⟩

end Go.Proofs.Qxb6000022a
