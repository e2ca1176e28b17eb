import Derived.Test.Qxb6000022aText
namespace Go.Proofs.Qxb6000022a
open Go.RowKit

/-- It answers whether the n bytes are a plain value; the world has only drawn. -/
def Says (z : Nat → Int) (n : Nat) (w : World) (e : Ending) (w' : World) : Prop := ∃ r, e = .returned (.bool r) ∧ (∃ m, w' = w.drewN m) ∧ (r = true ↔ Txt z n)
theorem Says.mk {z : Nat → Int} {n : Nat} {w w' : World} {e : Ending} (r : Bool) (h1 : e = .returned (.bool r)) (h2 : ∃ m, w' = w.drewN m) (h3 : r = true ↔ Txt z n) : Says z n w e w' := ⟨r, h1, h2, h3⟩

set_option maxHeartbeats 1000000 in
/-- zzIsPlainValueText at a text that begins with a quote. -/
theorem isText_q (b o n c : Nat) (z : Nat → Int) (w : World) (hn : n ≤ 4194304) (h1 : 1 ≤ n) (hb : ∀ i, i < n → w.cell? ⟨b, o + i, none⟩ = some (.int .u8 (z i))) (h34 : z 0 = 34) :
    Calls Try.prog 17 #[.slice (some ⟨b, o, none⟩) n c] w (Says z n w) := by
  have H34 : Hid (z 0 = 34) := h34
  have q0 : (z 0 == 34) = true := by simp [h34]
  have hc0 : w.cell? ⟨b, o, none⟩ = some (.int .u8 (z 0)) := hb 0 (by omega)
  have hz : ((n : Int) == 0) = false := by simp; omega
  clear h34
  by_cases h2 : n < 2
  · have fin : Hid (false = true ↔ Txt z n) := by rw [Hid, txt_q H34.out]; simp; omega
    go_enter Try.func17, Try.ntmps17
    go_wp2
    go_ret
    exact Says.mk false rfl ⟨0, rfl⟩ fin.out
  have hc1 : w.cell? ⟨b, o + (n - 1), none⟩ = some (.int .u8 (z (n - 1))) := hb (n - 1) (by omega)
  by_cases hl : z (n - 1) = 34
  case neg =>
    have hl' : (z (n - 1) != 34) = true := by simp [hl]
    have fin : Hid (false = true ↔ Txt z n) := by rw [Hid, txt_q H34.out]; simp [hl]
    clear hl
    go_enter Try.func17, Try.ntmps17
    go_wp2
    go_ret
    exact Says.mk false rfl ⟨0, rfl⟩ fin.out
  have HL : Hid (z (n - 1) = 34) := hl
  have hl' : (z (n - 1) != 34) = false := by simp [hl]
  clear hl
  go_enter Try.func17, Try.ntmps17
  go_wp2
  go_loop [4] (fun t => ∃ k : Nat, 1 ≤ k ∧ k ≤ n - 1 ∧ t = .int .i64 k ∧ ∀ j, 1 ≤ j → j < k → plain (z j)) (fun t => n - (intOf t).toNat)
  case atStart => exact ⟨1, by omega, by omega, rfl, fun j h1 h2 => by omega⟩
  case round =>
    obtain ⟨k, hk1, hk2, rfl, hp⟩ := hrel
    have HP : Hid (∀ j, 1 ≤ j → j < k → plain (z j)) := hp
    clear hp hc0 hc1
    by_cases hkn : k < n - 1
    · have hkn' : k < n := by omega
      by_cases hpl : plain (z k)
      · go_wp2_with (go_at_call 13; refine (isPlain_yes _ _ hpl).mono ?_; rintro e w' ⟨rfl, hw'⟩; subst w')
        go_round
        case rel =>
          refine ⟨k + 1, by omega, by omega, by go_num, fun j h1 h2 => ?_⟩
          by_cases e : j = k
          · subst e; exact hpl
          · exact HP.out j h1 (by omega)
        case measure => simp [intOf]; omega
      · go_wp2_with (go_at_call 13; refine (isPlain_no _ _ hpl).mono ?_; rintro e w' ⟨rfl, hw'⟩; subst w')
        go_ret
        refine Says.mk false rfl ⟨0, rfl⟩ ?_
        rw [txt_q H34.out]
        simp only [Bool.false_eq_true, false_iff]
        rintro ⟨_, _, h⟩
        exact hpl (h k hk1 hkn)
    · go_wp2
      go_ret
      refine Says.mk true rfl ⟨0, rfl⟩ ?_
      rw [txt_q H34.out]
      simp only [true_iff]
      exact ⟨by omega, HL.out, fun j h1 h2 => HP.out j h1 (by omega)⟩

set_option maxHeartbeats 1000000 in
/-- .. with 0. -/
theorem isText_z (b o n c : Nat) (z : Nat → Int) (w : World) (hn : n ≤ 4194304) (h1 : 1 ≤ n) (hb : ∀ i, i < n → w.cell? ⟨b, o + i, none⟩ = some (.int .u8 (z i))) (h48 : z 0 = 48) :
    Calls Try.prog 17 #[.slice (some ⟨b, o, none⟩) n c] w (Says z n w) := by
  have H48 : Hid (z 0 = 48) := h48
  have q0 : (z 0 == 34) = false := by simp [h48]
  have q1 : (z 0 == 48) = true := by simp [h48]
  have hc0 : w.cell? ⟨b, o, none⟩ = some (.int .u8 (z 0)) := hb 0 (by omega)
  have hz : ((n : Int) == 0) = false := by simp; omega
  clear h48
  go_enter Try.func17, Try.ntmps17
  go_wp2
  go_ret
  refine Says.mk _ rfl ⟨0, rfl⟩ ?_
  rw [txt_z H48.out]
  simp
  omega

set_option maxHeartbeats 1000000 in
/-- .. with a digit 1 to 9. -/
theorem isText_d (b o n c : Nat) (z : Nat → Int) (w : World) (hn : n ≤ 4194304) (h1 : 1 ≤ n) (hb : ∀ i, i < n → w.cell? ⟨b, o + i, none⟩ = some (.int .u8 (z i))) (h49 : 49 ≤ z 0) (h57 : z 0 ≤ 57) :
    Calls Try.prog 17 #[.slice (some ⟨b, o, none⟩) n c] w (Says z n w) := by
  have q0 : (z 0 == 34) = false := by simp; omega
  have q1 : (z 0 == 48) = false := by simp; omega
  have hc0 : w.cell? ⟨b, o, none⟩ = some (.int .u8 (z 0)) := hb 0 (by omega)
  have hz : ((n : Int) == 0) = false := by simp; omega
  go_enter Try.func17, Try.ntmps17
  go_wp2
  go_loop [5] (fun t => ∃ k : Nat, 1 ≤ k ∧ k ≤ n ∧ t = .int .i64 k ∧ ∀ j, 1 ≤ j → j < k → digit (z j)) (fun t => n - (intOf t).toNat)
  case atStart => exact ⟨1, by omega, by omega, rfl, fun j h1 h2 => by omega⟩
  case round =>
    obtain ⟨k, hk1, hk2, rfl, hp⟩ := hrel
    have HP : Hid (∀ j, 1 ≤ j → j < k → digit (z j)) := hp
    clear hp hc0
    by_cases hkn : k < n
    · by_cases hpl : digit (z k)
      · go_wp2_with (go_at_call 20; refine (isDigit_yes _ _ hpl).mono ?_; rintro e w' ⟨rfl, hw'⟩; subst w')
        go_round
        case rel =>
          refine ⟨k + 1, by omega, by omega, by go_num, fun j h1 h2 => ?_⟩
          by_cases e : j = k
          · subst e; exact hpl
          · exact HP.out j h1 (by omega)
        case measure => simp [intOf]; omega
      · go_wp2_with (go_at_call 20; refine (isDigit_no _ _ hpl).mono ?_; rintro e w' ⟨rfl, hw'⟩; subst w')
        go_ret
        refine Says.mk false rfl ⟨0, rfl⟩ ?_
        rw [txt_d h49 h57]
        simp only [Bool.false_eq_true, false_iff]
        intro h
        exact hpl (h k hk1 hkn)
    · go_wp2
      go_ret
      refine Says.mk true rfl ⟨0, rfl⟩ ?_
      rw [txt_d h49 h57]
      simp only [true_iff]
      exact fun j h1 h2 => HP.out j h1 (by omega)

set_option maxHeartbeats 1000000 in
/-- .. with another byte. -/
theorem isText_w (b o n c : Nat) (z : Nat → Int) (w : World) (hn : n ≤ 4194304) (h1 : 1 ≤ n) (hb : ∀ i, i < n → w.cell? ⟨b, o + i, none⟩ = some (.int .u8 (z i))) (h34 : z 0 ≠ 34) (hd : ¬ digit (z 0)) :
    Calls Try.prog 17 #[.slice (some ⟨b, o, none⟩) n c] w (Says z n w) := by
  have HT : Hid (Txt z n ↔ (n = 4 ∧ isTrue z) ∨ (n = 5 ∧ isFalse z) ∨ (n = 4 ∧ isNull z)) := txt_w h34 hd
  have q0 : (z 0 == 34) = false := by simp [h34]
  have q1 : (z 0 == 48) = false := by
    simp only [beq_eq_false_iff_ne]
    intro h
    exact hd ⟨by omega, by omega⟩
  have q2 : z 0 < 49 ∨ 57 < z 0 := by
    by_cases h : z 0 < 49
    · exact .inl h
    · refine .inr ?_
      by_cases h' : 57 < z 0
      · exact h'
      · exact absurd ⟨by omega, by omega⟩ hd
  have hc0 : w.cell? ⟨b, o, none⟩ = some (.int .u8 (z 0)) := hb 0 (by omega)
  have hz : ((n : Int) == 0) = false := by simp; omega
  clear h34 hd
  by_cases h4 : n = 4
  · subst h4
    rcases q2 with q2 | q2
    all_goals
      go_enter Try.func17, Try.ntmps17
      go_wp2_with fail
      refine (hasWord_any b o 4 c z ⟨#[116, 114, 117, 101]⟩ w (by omega) rfl hb).mono ?_
      rintro e w1 ⟨r, rfl, ⟨m, hw1⟩, ht, hf⟩
      subst w1
      cases r
      · have HF : Hid (¬ isTrue z) := fun h => by
          obtain ⟨k, hk, hne⟩ := hf rfl
          exact hne (word_true.1 h k hk)
        clear ht hf
        go_wp2_with fail
        refine (hasWord_any b o 4 c z ⟨#[110, 117, 108, 108]⟩ (w.drewN m) (by omega) rfl hb).mono ?_
        rintro e w2 ⟨r, rfl, ⟨m', hw2⟩, ht, hf⟩
        subst w2
        cases r
        · have HF' : Hid (¬ isNull z) := fun h => by
            obtain ⟨k, hk, hne⟩ := hf rfl
            exact hne (word_null.1 h k hk)
          clear ht hf
          go_wp2
          go_ret
          refine Says.mk false rfl ⟨_, rfl⟩ ?_
          rw [HT.out]
          simp [HF.out, HF'.out]
        · have HF' : Hid (isNull z) := word_null.2 (ht rfl)
          clear ht hf
          go_wp2
          go_ret
          refine Says.mk true rfl ⟨_, rfl⟩ ?_
          rw [HT.out]
          simp [HF'.out]
      · have HF : Hid (isTrue z) := word_true.2 (ht rfl)
        clear ht hf
        go_wp2
        go_ret
        refine Says.mk true rfl ⟨_, rfl⟩ ?_
        rw [HT.out]
        simp [HF.out]
  by_cases h5 : n = 5
  · subst h5
    clear h4
    rcases q2 with q2 | q2
    all_goals
      go_enter Try.func17, Try.ntmps17
      go_wp2_with fail
      refine (hasWord_any b o 5 c z ⟨#[102, 97, 108, 115, 101]⟩ w (by omega) rfl hb).mono ?_
      rintro e w1 ⟨r, rfl, ⟨m, hw1⟩, ht, hf⟩
      subst w1
      cases r
      · have HF : Hid (¬ isFalse z) := fun h => by
          obtain ⟨k, hk, hne⟩ := hf rfl
          exact hne (word_false.1 h k hk)
        clear ht hf
        go_wp2
        go_ret
        refine Says.mk false rfl ⟨_, rfl⟩ ?_
        rw [HT.out]
        simp [HF.out]
      · have HF : Hid (isFalse z) := word_false.2 (ht rfl)
        clear ht hf
        go_wp2
        go_ret
        refine Says.mk true rfl ⟨_, rfl⟩ ?_
        rw [HT.out]
        simp [HF.out]
  · have g4 : ((n : Int) == 4) = false := by simp; omega
    have g5 : ((n : Int) == 5) = false := by simp; omega
    have fin : Hid (false = true ↔ Txt z n) := by rw [Hid, HT.out]; simp [h4, h5]
    clear h4 h5
    rcases q2 with q2 | q2
    all_goals
      go_enter Try.func17, Try.ntmps17
      go_wp2
      go_ret
      exact Says.mk false rfl ⟨0, rfl⟩ fin.out

/-- zzIsPlainValueText, at every text that is not empty. -/
theorem isText_any (b o n c : Nat) (z : Nat → Int) (w : World) (hn : n ≤ 4194304) (h1 : 1 ≤ n) (hb : ∀ i, i < n → w.cell? ⟨b, o + i, none⟩ = some (.int .u8 (z i))) :
    Calls Try.prog 17 #[.slice (some ⟨b, o, none⟩) n c] w (Says z n w) := by
  by_cases h34 : z 0 = 34
  · exact isText_q b o n c z w hn h1 hb h34
  by_cases hd : digit (z 0)
  · by_cases h48 : z 0 = 48
    · exact isText_z b o n c z w hn h1 hb h48
    · exact isText_d b o n c z w hn h1 hb (by have := hd.1; omega) hd.2
  · exact isText_w b o n c z w hn h1 hb h34 hd

end Go.Proofs.Qxb6000022a
