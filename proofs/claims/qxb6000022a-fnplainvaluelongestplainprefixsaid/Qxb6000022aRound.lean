import Derived.Test.Qxb6000022aRefuses
import Derived.Test.Qxb6000022aSame
namespace Go.Proofs.Qxb6000022a
open Go.RowKit

/-- A plain content between two quotes: a plain string stands there, up to the closing quote. -/
theorem found_round (Z1 Z2 Z3 : List Int) (n : Nat) (hn : n = Z1.length + Z2.length + Z3.length + 2) (hp : ∀ t, t < Z2.length → plain (Z2.getD t 0)) :
    Found (fun i => (Z1 ++ 34 :: (Z2 ++ 34 :: Z3)).getD i 0) n Z1.length (Z1.length + 1 + Z2.length) := by
  refine ⟨by omega, by omega, at_quote Z1 Z2 Z3, at_close Z1 Z2 Z3, fun k h1 h2 => ?_⟩
  obtain ⟨t, rfl⟩ : ∃ t, k = Z1.length + 1 + t := ⟨k - (Z1.length + 1), by omega⟩
  show plain ((Z1 ++ 34 :: (Z2 ++ 34 :: Z3)).getD (Z1.length + 1 + t) 0)
  rw [at_content Z1 Z2 Z3 t (by omega)]
  exact hp t (by omega)

/-- zzSameBytes at a row and at a slice of the same bytes, whatever its address. -/
theorem same_reads (b o n c d : Nat) (B : Option Addr) (Z : List Int) (w : World) (hZ : Z.length = n) (hn : n ≤ 4194304) (h1 : ∀ i, i < n → w.cell? ⟨b, o + i, none⟩ = some (.int .u8 (Z.getD i 0))) (r : Reads w B d Z) :
    Calls Try.prog 11 #[.slice (some ⟨b, o, none⟩) n c, .slice B n d] w fun e w' => e = .returned (.bool true) ∧ ∃ m, w' = w.drewN m := by
  by_cases h0 : n = 0
  · subst h0
    exact same_empty _ _ _ _ w
  · cases B with
    | none => have := r.nil rfl; omega
    | some x =>
      obtain ⟨b', o', rfl, _, hc⟩ := row_plain (show 0 < n by omega) (fun i hi => r.cell x rfl i (by omega))
      exact same_yes b o c b' o' d n (fun i => Z.getD i 0) w hn h1 hc

theorem isPlain_yes (c : Int) (w : World) (h : plain c) :
    Calls Try.prog 13 #[.int .u8 c] w fun e w' => e = .returned (.bool true) ∧ w' = w := by
  obtain ⟨h1, h2, h3, h4⟩ := h
  have h3' : (c != 34) = true := by simp [h3]
  have h4' : (c != 92) = true := by simp [h4]
  clear h3 h4
  go_enter Try.func13, Try.ntmps13
  go_wp2
  go_ret
  exact ⟨rfl, rfl⟩

theorem isPlain_no (c : Int) (w : World) (h : ¬ plain c) :
    Calls Try.prog 13 #[.int .u8 c] w fun e w' => e = .returned (.bool false) ∧ w' = w := by
  by_cases h1 : 32 ≤ c
  · by_cases h2 : c ≤ 126
    · by_cases h3 : c = 34
      · have h3' : (c != 34) = false := by simp [h3]
        clear h3 h
        go_enter Try.func13, Try.ntmps13
        go_wp2
        go_ret
        exact ⟨rfl, rfl⟩
      · have h3' : (c != 34) = true := by simp [h3]
        have h4 : c = 92 := by
          by_cases e : c = 92
          · exact e
          · exact absurd ⟨h1, h2, h3, e⟩ h
        have h4' : (c != 92) = false := by simp [h4]
        clear h3 h4 h
        go_enter Try.func13, Try.ntmps13
        go_wp2
        go_ret
        exact ⟨rfl, rfl⟩
    · clear h
      go_enter Try.func13, Try.ntmps13
      go_wp2
      go_ret
      exact ⟨rfl, rfl⟩
  · clear h
    go_enter Try.func13, Try.ntmps13
    go_wp2
    go_ret
    exact ⟨rfl, rfl⟩

/-- Too long: true at once. -/
theorem round_out (A1 A2 A3 : Option Addr) (n1 n2 n3 c1 c2 c3 : Nat) (w : World) (h : 65536 < n1 ∨ 65536 < n2 ∨ 65536 < n3) :
    Calls Try.prog 4 #[.slice A1 n1 c1, .slice A2 n2 c2, .slice A3 n3 c3] w fun e w' => e = .returned (.bool true) ∧ Below w.heap.size w w' := by
  have H : Hid (65536 < n1 ∨ 65536 < n2 ∨ 65536 < n3) := h
  clear h
  go_enter Try.func4, Try.ntmps4
  go_wp2_with fail
  refine (bytes12_any _ _ _ _ _ _ _ _ _ _).mono ?_
  rintro e w' ⟨⟨b, rfl⟩, hw'⟩
  subst w'
  cases b
  · go_wp2
    go_ret
    exact ⟨rfl, Below.refl _ _⟩
  · by_cases h1 : 65536 < n1
    · go_wp2
      go_ret
      exact ⟨rfl, Below.refl _ _⟩
    by_cases h2 : 65536 < n2
    · go_wp2
      go_ret
      exact ⟨rfl, Below.refl _ _⟩
    have h3 : 65536 < n3 := by have := H.out; omega
    go_wp2
    go_ret
    exact ⟨rfl, Below.refl _ _⟩

set_option maxHeartbeats 2000000 in
theorem round_some (A1 A2 A3 : Option Addr) (n1 n2 n3 c1 c2 c3 : Nat) (Z1 Z2 Z3 : List Int) (w : World) (h1 : n1 ≤ 65536) (h2 : n2 ≤ 65536) (h3 : n3 ≤ 65536)
    (e1 : Z1.length = n1) (e2 : Z2.length = n2) (e3 : Z3.length = n3) (r1 : Reads w A1 c1 Z1) (r2 : Reads w A2 c2 Z2) (r3 : Reads w A3 c3 Z3) :
    Calls Try.prog 4 #[.slice A1 n1 c1, .slice A2 n2 c2, .slice A3 n3 c3] w fun e w' => e = .returned (.bool true) ∧ Below w.heap.size w w' := by
  have hn := fun w a b c => run_neq_slice_nil_any (P := Try.prog) w 22 5 a b c 0 0 Try.underlying22
  have E : Hid (Z1.length = n1 ∧ Z2.length = n2 ∧ Z3.length = n3) := ⟨e1, e2, e3⟩
  clear e1 e2 e3
  go_enter Try.func4, Try.ntmps4
  go_wp2_with (go_at_call 12; refine (bytes12_yes _ _ _ _ _ _ _ _ _ _ h1 h2 h3).mono ?_; rintro e w' ⟨rfl, hw'⟩; subst w')
  go_loop [7] (fun t => ∃ k : Nat, k ≤ n2 ∧ t = .int .i64 k ∧ ∀ j, j < k → plain (Z2.getD j 0)) (fun t => n2 - (intOf t).toNat)
  case atStart => exact ⟨0, by omega, rfl, fun j h => by omega⟩
  case round =>
    obtain ⟨k, hk, rfl, hp⟩ := hrel
    have HP : Hid (∀ j, j < k → plain (Z2.getD j 0)) := hp
    clear hp
    by_cases hkn : k < n2
    · obtain ⟨b, o, hA, hc⟩ : ∃ b o, A2 = some ⟨b, o, none⟩ ∧ w.cell? ⟨b, o + k, none⟩ = some (.int .u8 (Z2.getD k 0)) := by
        cases A2 with
        | none => have := r2.nil rfl; have := E.out; omega
        | some x =>
          obtain ⟨b, o, rfl, _, hc⟩ := row_plain (show 0 < n2 by omega) (fun i hi => r2.cell x rfl i (by have := E.out; omega))
          exact ⟨b, o, rfl, hc k hkn⟩
      obtain ⟨z, hz⟩ : ∃ z, z = Z2.getD k 0 := ⟨_, rfl⟩
      rw [← hz] at hc
      have Hz : Hid (z = Z2.getD k 0) := hz
      subst hA
      clear hz r1 r2 r3
      by_cases hpl : plain z
      · go_wp2_with (go_at_call 13; refine (isPlain_yes _ _ hpl).mono ?_; rintro e w' ⟨rfl, hw'⟩; subst w')
        go_round
        case rel =>
          refine ⟨k + 1, by omega, by go_num, fun j hj => ?_⟩
          by_cases e : j = k
          · subst e; rw [← Hz.out]; exact hpl
          · exact HP.out j (by omega)
        case measure => simp [intOf]; omega
      · go_wp2_with (go_at_call 13; refine (isPlain_no _ _ hpl).mono ?_; rintro e w' ⟨rfl, hw'⟩; subst w')
        go_ret
        exact ⟨rfl, Below.refl _ _⟩
    · have HF : Hid (Found (fun i => (Z1 ++ 34 :: (Z2 ++ 34 :: Z3)).getD i 0) (n1 + n2 + n3 + 2) n1 (n1 + 1 + n2)) := by
        obtain ⟨x1, x2, x3⟩ := E.out
        have := found_round Z1 Z2 Z3 (n1 + n2 + n3 + 2) (by omega) (fun t ht => HP.out t (by omega))
        rw [x1, x2] at this
        exact this
      have h20 : n1 ≤ 1048576 := by omega
      have h21 : n2 ≤ 1048576 := by omega
      have h22 : n3 ≤ 1048576 := by omega
      go_wp2_with fail
      refine (clone_reads A1 n1 c1 Z1 w E.out.1 h20 r1).mono ?_
      rintro e w1 ⟨B1, d1, rfl, q1, b1⟩
      have r2' := r2.keep b1
      have r3' := r3.keep b1
      clear r1 r2 r3
      go_wp2_with fail
      refine (clone_reads _ n2 c2 Z2 w1 E.out.2.1 h21 r2').mono ?_
      rintro e w2 ⟨B2, d2, rfl, q2, b2⟩
      have q1' := q1.keep b2
      have r3'' := r3'.keep b2
      have b12 := b1.trans (b2.mono b1.size)
      clear q1 r3' r2' b2
      go_wp2_with fail
      refine (clone_reads A3 n3 c3 Z3 w2 E.out.2.2 h22 r3'').mono ?_
      rintro e w3 ⟨B3, d3, rfl, q3, b3⟩
      have q1'' := q1'.keep b3
      have q2' := q2.keep b3
      have b13 := b12.trans (b3.mono b12.size)
      clear q1' q2 r3'' b3 b12 b1
      go_wp2_with fail
      refine (quoted_any B1 B2 B3 d1 d2 d3 n1 n2 n3 Z1 Z2 Z3 w3 E.out.1 E.out.2.1 E.out.2.2 h20 h21 h22 q1'' q2' q3).mono ?_
      rintro e w4 ⟨rfl, hown, b4⟩
      have b14 := b13.trans (b4.mono b13.size)
      have C4 : Hid (∀ i, i < n1 + n2 + n3 + 2 → w4.cell? ⟨w3.heap.size, 0 + i, none⟩ = some (.int .u8 ((Z1 ++ 34 :: (Z2 ++ 34 :: Z3)).getD i 0))) := by
        intro i hi
        rw [Nat.zero_add, hown.cellAt i (by omega)]
        have hl : i < (Z1 ++ 34 :: (Z2 ++ 34 :: Z3)).length := by have := E.out; simp; omega
        rw [List.getElem?_map, List.getElem?_eq_getElem hl, List.getD_eq_getElem?_getD, List.getElem?_eq_getElem hl]
        rfl
      have Q2 : Hid (Reads w4 B2 d2 Z2) := q2'.keep b4
      have B14 : Hid (Below w.heap.size w w4) := b14
      clear hown q1'' q2' q3 b4 b13 b14
      go_wp2_with fail
      refine (ps_yes w3.heap.size 0 (n1 + n2 + n3 + 2) (n1 + n2 + n3 + 2) n1 (n1 + 1 + n2) _ w4 (by omega) (Nat.le_refl _) C4.out HF.out).mono ?_
      rintro e w5 ⟨rfl, hw5⟩
      subst w5
      have hend : ((n1 : Int) + 1 + (n2 : Int) + 1 == (n1 : Int) + (n2 : Int) + 2) = true := by simp; omega
      go_wp2_with fail
      refine (same_reads w3.heap.size (n1 + 1) n2 _ d2 B2 Z2 w4 E.out.2.1 (by omega) ?hs Q2.out).mono ?_
      case hs =>
        intro i hi
        have := C4.out (n1 + 1 + i) (by omega)
        rw [Nat.zero_add] at this
        rw [this]
        obtain ⟨x1, x2, x3⟩ := E.out
        have h := at_content Z1 Z2 Z3 i (by omega)
        rw [x1] at h
        rw [h]
      rintro e w6 ⟨rfl, m, hw6⟩
      subst w6
      go_wp2
      go_ret
      exact ⟨rfl, below_drewN B14.out m⟩

end Go.Proofs.Qxb6000022a
