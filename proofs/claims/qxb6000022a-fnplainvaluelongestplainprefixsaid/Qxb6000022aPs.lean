import Derived.Test.Qxb6000022aClone
namespace Go.Proofs.Qxb6000022a
open Go.RowKit

/-- A byte that may stand inside a plain string. -/
def plain (c : Int) : Prop := 32 ≤ c ∧ c ≤ 126 ∧ c ≠ 34 ∧ c ≠ 92

/-- A plain string stands at i and its closing quote at q. -/
structure Found (z : Nat → Int) (n i q : Nat) : Prop where
  lt : i < q
  qn : q < n
  h0 : z i = 34
  hq : z q = 34
  mid : ∀ k, i < k → k < q → plain (z k)

set_option maxHeartbeats 400000 in
/-- PlainString where a plain string stands. -/
theorem ps_yes (b o n c i q : Nat) (z : Nat → Int) (w : World) (hn : n ≤ 4194304) (hnc : n ≤ c) (hb : ∀ i, i < n → w.cell? ⟨b, o + i, none⟩ = some (.int .u8 (z i))) (hF : Found z n i q) :
    Calls Try.prog 10 #[.slice (some ⟨b, o, none⟩) n c, .int .i64 i] w fun e w' => e = .returned (.tuple #[.slice (some ⟨b, o + (i + 1), none⟩) (q - (i + 1)) (c - (i + 1)), .int .i64 (q + 1)]) ∧ w' = w := by
  obtain ⟨h1, h2, h3, h4, h5⟩ := hF
  have hin : i < n := by omega
  have h3' : (z i != 34) = false := by simp [h3]
  have hne : ((i : Int) == (n : Int)) = false := by simp; omega
  clear h3
  go_enter Try.func10, Try.ntmps10
  go_wp2
  go_loop [6] (fun s => ∃ k : Nat, i < k ∧ k ≤ q ∧ s = .int .i64 k) (fun s => q - (intOf s).toNat)
  case atStart => exact ⟨i + 1, by omega, by omega, by go_num⟩
  case round =>
    obtain ⟨k, hk1, hk2, rfl⟩ := hrel
    have hkn : k < n := by omega
    by_cases hkq : k = q
    · subst hkq
      have h4' : (z k == 34) = true := by simp [h4]
      clear h4 h5
      go_wp2
      go_ret2
      exact ⟨rfl, rfl⟩
    · have hp := h5 k hk1 (by omega)
      obtain ⟨p1, p2, p3, p4⟩ := hp
      clear h5 h4
      have p3' : (z k == 34) = false := by simp [p3]
      have p4' : (z k == 92) = false := by simp [p4]
      go_wp2
      go_round
      case rel => exact ⟨k + 1, by omega, by omega, by go_num⟩
      case measure => simp [intOf]; omega

set_option maxHeartbeats 400000 in
/-- PlainString where no plain string stands. -/
theorem ps_no (b o n c i : Nat) (z : Nat → Int) (w : World) (hn : n ≤ 4194304) (hnc : n ≤ c) (hi : i ≤ n) (hb : ∀ i, i < n → w.cell? ⟨b, o + i, none⟩ = some (.int .u8 (z i))) (hF : ∀ q, ¬ Found z n i q) :
    Calls Try.prog 10 #[.slice (some ⟨b, o, none⟩) n c, .int .i64 i] w fun e w' => e = .returned (.tuple #[.slice none 0 0, .int .i64 (-1)]) ∧ w' = w := by
  by_cases hin : i = n
  · subst hin
    clear hF
    go_enter Try.func10, Try.ntmps10
    go_wp2
    go_ret2
    exact ⟨rfl, rfl⟩
  have hin' : i < n := by omega
  have hne : ((i : Int) == (n : Int)) = false := by simp; omega
  by_cases h34 : z i = 34
  case neg =>
    have h34' : (z i != 34) = true := by simp [h34]
    clear hF
    go_enter Try.func10, Try.ntmps10
    go_wp2
    go_ret2
    exact ⟨rfl, rfl⟩
  have h34' : (z i != 34) = false := by simp [h34]
  have HF : Hid (∀ q, ¬ Found z n i q) := hF
  have H34 : Hid (z i = 34) := h34
  clear hF h34
  go_enter Try.func10, Try.ntmps10
  go_wp2
  go_loop [6] (fun s => ∃ k : Nat, i < k ∧ k ≤ n ∧ s = .int .i64 k ∧ ∀ j, i < j → j < k → plain (z j)) (fun s => n - (intOf s).toNat)
  case atStart => exact ⟨i + 1, by omega, by omega, by go_num, fun j h1 h2 => by omega⟩
  case round =>
    obtain ⟨k, hk1, hk2, rfl, hpl⟩ := hrel
    have HP : Hid (∀ j, i < j → j < k → plain (z j)) := hpl
    clear hpl
    by_cases hkn : k < n
    · have hk34 : (z k == 34) = false := by
        simp only [beq_eq_false_iff_ne]
        intro h
        exact HF.out k ⟨hk1, hkn, H34.out, h, HP.out⟩
      by_cases hbad : z k < 32 ∨ 126 < z k ∨ z k = 92
      · rcases hbad with h | h | h
        · go_wp2
          go_ret2
          exact ⟨rfl, rfl⟩
        · have h' : ¬ z k < 32 := by omega
          go_wp2
          go_ret2
          exact ⟨rfl, rfl⟩
        · have h1 : ¬ z k < 32 := by omega
          have h2 : ¬ 126 < z k := by omega
          have h' : (z k == 92) = true := by simp [h]
          clear h
          go_wp2
          go_ret2
          exact ⟨rfl, rfl⟩
      · have h1 : ¬ z k < 32 := by omega
        have h2 : ¬ 126 < z k := by omega
        have h' : (z k == 92) = false := by simp; omega
        have hp : plain (z k) := ⟨by omega, by omega, by simpa using hk34, by omega⟩
        have HPk : Hid (plain (z k)) := hp
        clear hp hbad
        go_wp2
        go_round
        case rel =>
          refine ⟨k + 1, by omega, by omega, by go_num, fun j h1 h2 => ?_⟩
          by_cases e : j = k
          · subst e; exact HPk.out
          · exact HP.out j h1 (by omega)
        case measure => simp [intOf]; omega
    · go_wp2
      go_ret2
      exact ⟨rfl, rfl⟩

/-- PlainString of nil. -/
theorem ps_nil (w : World) :
    Calls Try.prog 10 #[.slice none 0 0, .int .i64 0] w fun e w' => e = .returned (.tuple #[.slice none 0 0, .int .i64 (-1)]) ∧ w' = w := by
  go_enter Try.func10, Try.ntmps10
  go_wp2
  go_ret2
  exact ⟨rfl, rfl⟩

end Go.Proofs.Qxb6000022a
