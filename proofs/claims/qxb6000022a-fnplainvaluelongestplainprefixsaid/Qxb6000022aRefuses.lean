import Derived.Test.Qxb6000022aThree
import Derived.Test.Qxb6000022aPs
namespace Go.Proofs.Qxb6000022a
open Go.RowKit

/-! ### Plain facts on lists -/

theorem at_quote (Z1 Z2 Z3 : List Int) : (Z1 ++ 34 :: (Z2 ++ 34 :: Z3)).getD Z1.length 0 = 34 := by simp [List.getD]

theorem at_content (Z1 Z2 Z3 : List Int) (t : Nat) (h : t < Z2.length) : (Z1 ++ 34 :: (Z2 ++ 34 :: Z3)).getD (Z1.length + 1 + t) 0 = Z2.getD t 0 := by
  simp only [List.getD]
  rw [List.getElem?_append_right (by omega), show Z1.length + 1 + t - Z1.length = t + 1 by omega, List.getElem?_cons_succ, List.getElem?_append_left h]

theorem at_close (Z1 Z2 Z3 : List Int) : (Z1 ++ 34 :: (Z2 ++ 34 :: Z3)).getD (Z1.length + 1 + Z2.length) 0 = 34 := by
  simp only [List.getD]
  rw [List.getElem?_append_right (by omega), show Z1.length + 1 + Z2.length - Z1.length = Z2.length + 1 by omega, List.getElem?_cons_succ, List.getElem?_append_right (by omega)]
  simp

/-- A content without a quote and with a byte that is not plain: no plain string stands there. -/
theorem no_found (Z1 Z2 Z3 : List Int) (n : Nat) (hq : ∀ t, t < Z2.length → Z2.getD t 0 ≠ 34) (j : Nat) (hj : j < Z2.length) (hbad : ¬ plain (Z2.getD j 0)) :
    ∀ q, ¬ Found (fun i => (Z1 ++ 34 :: (Z2 ++ 34 :: Z3)).getD i 0) n Z1.length q := by
  rintro q ⟨h1, h2, h3, h4, h5⟩
  by_cases hqq : q ≤ Z1.length + Z2.length
  · obtain ⟨t, rfl⟩ : ∃ t, q = Z1.length + 1 + t := ⟨q - (Z1.length + 1), by omega⟩
    have h4' : (Z1 ++ 34 :: (Z2 ++ 34 :: Z3)).getD (Z1.length + 1 + t) 0 = 34 := h4
    rw [at_content Z1 Z2 Z3 t (by omega)] at h4'
    exact hq t (by omega) h4'
  · have h5' : plain ((Z1 ++ 34 :: (Z2 ++ 34 :: Z3)).getD (Z1.length + 1 + j) 0) := h5 (Z1.length + 1 + j) (by omega) (by omega)
    rw [at_content Z1 Z2 Z3 j hj] at h5'
    exact hbad h5'

/-- Too long: true at once. -/
theorem refuses_out (A1 A2 A3 : Option Addr) (n1 n2 n3 c1 c2 c3 : Nat) (w : World) (h : 65536 < n1 ∨ 65536 < n2 ∨ 65536 < n3) :
    Calls Try.prog 5 #[.slice A1 n1 c1, .slice A2 n2 c2, .slice A3 n3 c3] w fun e w' => e = .returned (.bool true) ∧ Below w.heap.size w w' := by
  have H : Hid (65536 < n1 ∨ 65536 < n2 ∨ 65536 < n3) := h
  clear h
  go_enter Try.func5, Try.ntmps5
  go_wp2_with fail
  refine (bytes15_any _ _ _ _ _ _ _ _ _ _).mono ?_
  rintro e w' ⟨⟨b, rfl⟩, hw'⟩
  subst w'
  cases b
  · go_wp2
    go_ret
    exact ⟨rfl, Below.refl _ _⟩
  · by_cases h1 : 65536 < n1
    · go_wp2
      go_ret
      exact ⟨rfl, Below.refl _ _⟩
    by_cases h2 : 65536 < n2
    · go_wp2
      go_ret
      exact ⟨rfl, Below.refl _ _⟩
    have h3 : 65536 < n3 := by have := H.out; omega
    go_wp2
    go_ret
    exact ⟨rfl, Below.refl _ _⟩

set_option maxHeartbeats 1000000 in
/-- No content: true at once. -/
theorem refuses_empty (A1 A2 A3 : Option Addr) (n1 n3 c1 c2 c3 : Nat) (w : World) (h1 : n1 ≤ 65536) (h3 : n3 ≤ 65536) :
    Calls Try.prog 5 #[.slice A1 n1 c1, .slice A2 0 c2, .slice A3 n3 c3] w fun e w' => e = .returned (.bool true) ∧ Below w.heap.size w w' := by
  go_enter Try.func5, Try.ntmps5
  go_wp2_with (go_at_call 15; refine (bytes15_yes _ _ _ _ _ _ _ _ _ _ (by omega) (by omega) (by omega)).mono ?_; rintro e w' ⟨rfl, hw'⟩; subst w')
  refine wp_loop_rounds 1 ?_
  rw [rounds_succ]
  go_wp2
  go_ret
  exact ⟨rfl, Below.refl _ _⟩

set_option maxHeartbeats 2000000 in
theorem refuses_some (A1 A3 : Option Addr) (b o n1 n2 n3 c1 c2 c3 : Nat) (Z1 Z2 Z3 : List Int) (w : World) (h1 : n1 ≤ 65536) (h2 : n2 ≤ 65536) (h3 : n3 ≤ 65536) (h0 : 0 < n2)
    (e1 : Z1.length = n1) (e2 : Z2.length = n2) (e3 : Z3.length = n3) (r1 : Reads w A1 c1 Z1) (r2 : Reads w (some ⟨b, o, none⟩) c2 Z2) (r3 : Reads w A3 c3 Z3) :
    Calls Try.prog 5 #[.slice A1 n1 c1, .slice (some ⟨b, o, none⟩) n2 c2, .slice A3 n3 c3] w fun e w' => e = .returned (.bool true) ∧ Below w.heap.size w w' := by
  have hn := fun w a b c => Lib.run_eql_slice_nil (P := Try.prog) w 22 5 a b c 0 0 Try.underlying22
  have hc : ∀ i, i < n2 → w.cell? ⟨b, o + i, none⟩ = some (.int .u8 (Z2.getD i 0)) := fun i hi => by rw [← Addr.add_lit]; exact r2.cell _ rfl i (by omega)
  have E : Hid (Z1.length = n1 ∧ Z2.length = n2 ∧ Z3.length = n3) := ⟨e1, e2, e3⟩
  clear e1 e2 e3
  generalize hz : (fun i => Z2.getD i 0) = z at *
  have Hz : Hid (∀ i, Z2.getD i 0 = z i) := fun i => by rw [← hz]
  have hc' : ∀ i, i < n2 → w.cell? ⟨b, o + i, none⟩ = some (.int .u8 (z i)) := fun i hi => by rw [hc i hi, Hz.out]
  clear hc hz
  go_enter Try.func5, Try.ntmps5
  go_wp2_with (go_at_call 15; refine (bytes15_yes _ _ _ _ _ _ _ _ _ _ h1 h2 h3).mono ?_; rintro e w' ⟨rfl, hw'⟩; subst w')
  go_loop [7, 8] (fun s t => ∃ (k : Nat) (bb : Bool), k ≤ n2 ∧ t = .int .i64 k ∧ s = .bool bb ∧ (bb = true → ∃ j, j < n2 ∧ ¬ plain (z j)) ∧ ∀ j, j < k → z j ≠ 34) (fun _ t => n2 - (intOf t).toNat)
  case atStart => exact ⟨0, false, by omega, rfl, rfl, (fun h => by cases h), fun j h => by omega⟩
  case round =>
    obtain ⟨k, bb, hk, rfl, rfl, hb1, hq⟩ := hrel
    have HB : Hid (bb = true → ∃ j, j < n2 ∧ ¬ plain (z j)) := hb1
    have HQ : Hid (∀ j, j < k → z j ≠ 34) := hq
    clear hb1 hq
    by_cases hkn : k < n2
    · by_cases q34 : z k = 34
      · have q34' : (z k == 34) = true := by simp [q34]
        clear q34
        go_wp2
        go_ret
        exact ⟨rfl, Below.refl _ _⟩
      have q34' : (z k == 34) = false := by simp [q34]
      have HQ' : Hid (∀ j, j < k + 1 → z j ≠ 34) := by
        intro j hj
        by_cases e : j = k
        · subst e; exact q34
        · exact HQ.out j (by omega)
      clear q34
      by_cases c1 : z k < 32
      · go_wp2
        go_round
        case rel => exact ⟨k + 1, true, by omega, by go_num, rfl, fun _ => ⟨k, hkn, fun h => by have := h.1; omega⟩, HQ'.out⟩
        case measure => simp [intOf]; omega
      by_cases c2 : 126 < z k
      · go_wp2
        go_round
        case rel => exact ⟨k + 1, true, by omega, by go_num, rfl, fun _ => ⟨k, hkn, fun h => by have := h.2.1; omega⟩, HQ'.out⟩
        case measure => simp [intOf]; omega
      by_cases c3 : z k = 92
      · have c3' : (z k == 92) = true := by simp [c3]
        have HC : Hid (z k = 92) := c3
        clear c3
        go_wp2
        go_round
        case rel => exact ⟨k + 1, true, by omega, by go_num, rfl, fun _ => ⟨k, hkn, fun h => h.2.2.2 HC.out⟩, HQ'.out⟩
        case measure => simp [intOf]; omega
      · have c3' : (z k == 92) = false := by simp [c3]
        clear c3
        go_wp2
        go_round
        case rel => exact ⟨k + 1, bb, by omega, by go_num, rfl, HB.out, HQ'.out⟩
        case measure => simp [intOf]; omega
    · cases bb with
      | false =>
        go_wp2
        go_ret
        exact ⟨rfl, Below.refl _ _⟩
      | true =>
        obtain ⟨j, hj, hbad⟩ := HB.out rfl
        have HN : Hid (∀ q, ¬ Found (fun i => (Z1 ++ 34 :: (Z2 ++ 34 :: Z3)).getD i 0) (n1 + n2 + n3 + 2) n1 q) := by
          obtain ⟨x1, x2, x3⟩ := E.out
          have := no_found Z1 Z2 Z3 (n1 + n2 + n3 + 2) (fun t ht => by rw [Hz.out]; exact HQ.out t (by omega)) j (by omega) (by rw [Hz.out]; exact hbad)
          rw [x1] at this
          exact this
        have h20 : n1 ≤ 1048576 := by omega
        have h21 : n2 ≤ 1048576 := by omega
        have h22 : n3 ≤ 1048576 := by omega
        clear hj hbad hc'
        go_wp2_with fail
        refine (clone_reads A1 n1 c1 Z1 w E.out.1 h20 r1).mono ?_
        rintro e w1 ⟨B1, d1, rfl, q1, b1⟩
        have r2' := r2.keep b1
        have r3' := r3.keep b1
        clear r1 r2 r3
        go_wp2_with fail
        refine (clone_reads _ n2 c2 Z2 w1 E.out.2.1 h21 r2').mono ?_
        rintro e w2 ⟨B2, d2, rfl, q2, b2⟩
        have q1' := q1.keep b2
        have r3'' := r3'.keep b2
        have b12 := b1.trans (b2.mono b1.size)
        clear q1 r3' r2' b2
        go_wp2_with fail
        refine (clone_reads A3 n3 c3 Z3 w2 E.out.2.2 h22 r3'').mono ?_
        rintro e w3 ⟨B3, d3, rfl, q3, b3⟩
        have q1'' := q1'.keep b3
        have q2' := q2.keep b3
        have b13 := b12.trans (b3.mono b12.size)
        clear q1' q2 r3'' b3 b12 b1
        go_wp2_with fail
        refine (quoted_any B1 B2 B3 d1 d2 d3 n1 n2 n3 Z1 Z2 Z3 w3 E.out.1 E.out.2.1 E.out.2.2 h20 h21 h22 q1'' q2' q3).mono ?_
        rintro e w4 ⟨rfl, hown, b4⟩
        have b14 := b13.trans (b4.mono b13.size)
        have hc4 : ∀ i, i < n1 + n2 + n3 + 2 → w4.cell? ⟨w3.heap.size, 0 + i, none⟩ = some (.int .u8 ((Z1 ++ 34 :: (Z2 ++ 34 :: Z3)).getD i 0)) := by
          intro i hi
          rw [Nat.zero_add, hown.cellAt i (by omega)]
          have hl : i < (Z1 ++ 34 :: (Z2 ++ 34 :: Z3)).length := by have := E.out; simp; omega
          rw [List.getElem?_map, List.getElem?_eq_getElem hl, List.getD_eq_getElem?_getD, List.getElem?_eq_getElem hl]
          rfl
        clear hown q1'' q2' q3 b4 b13
        have B14 : Hid (Below w.heap.size w w4) := b14
        have C4 : Hid (∀ i, i < n1 + n2 + n3 + 2 → w4.cell? ⟨w3.heap.size, 0 + i, none⟩ = some (.int .u8 ((Z1 ++ 34 :: (Z2 ++ 34 :: Z3)).getD i 0))) := hc4
        clear b14 hc4
        go_wp2_with fail
        refine (ps_no w3.heap.size 0 (n1 + n2 + n3 + 2) (n1 + n2 + n3 + 2) n1 _ w4 (by omega) (Nat.le_refl _) (by omega) C4.out HN.out).mono ?_
        rintro e w5 ⟨rfl, hw5⟩
        subst w5
        go_wp2
        go_ret
        exact ⟨rfl, B14.out⟩

end Go.Proofs.Qxb6000022a
