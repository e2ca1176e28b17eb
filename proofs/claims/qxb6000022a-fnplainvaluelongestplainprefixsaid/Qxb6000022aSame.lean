import Derived.Test.Qxb6000022aClone
namespace Go.Proofs.Qxb6000022a
open Go.RowKit

set_option maxHeartbeats 400000 in
/-- zzSameBytes at two slices without elements. -/
theorem same_empty (A B : Option Addr) (c d : Nat) (w : World) :
    Calls Try.prog 11 #[.slice A 0 c, .slice B 0 d] w fun e w' => e = .returned (.bool true) ∧ ∃ m, w' = w.drewN m := by
  go_enter Try.func11, Try.ntmps11
  go_wp2
  refine wp_loop_rounds 1 ?_
  rw [rounds_succ]
  go_wp2
  go_ret
  exact ⟨rfl, 0, rfl⟩

set_option maxHeartbeats 400000 in
/-- zzSameBytes at two slices of the same bytes. -/
theorem same_yes (b o c b' o' d n : Nat) (z : Nat → Int) (w : World) (hn : n ≤ 4194304) (hb : ∀ i, i < n → w.cell? ⟨b, o + i, none⟩ = some (.int .u8 (z i))) (hb' : ∀ i, i < n → w.cell? ⟨b', o' + i, none⟩ = some (.int .u8 (z i))) :
    Calls Try.prog 11 #[.slice (some ⟨b, o, none⟩) n c, .slice (some ⟨b', o', none⟩) n d] w fun e w' => e = .returned (.bool true) ∧ ∃ m, w' = w.drewN m := by
  go_enter Try.func11, Try.ntmps11
  go_wp2
  go_loopw [5] (fun s wr => ∃ k : Nat, k ≤ n ∧ s = .int .i64 k ∧ ∃ m, wr = w.drewN m) (fun s _ => n - (intOf s).toNat)
  case atStart => exact ⟨0, Nat.zero_le _, rfl, 0, rfl⟩
  case round =>
    obtain ⟨k, hk, rfl, m, rfl⟩ := hrel
    by_cases hkn : k < n
    · have g1 := hb k hkn
      have g2 := hb' k hkn
      have hki : (k : Int) < (n : Int) := by omega
      clear hb hb'
      go_wp2
      go_quiet (fail)
      go_wp2
      go_roundw
      case rel => exact ⟨k + 1, by omega, by go_num, ⟨_, rfl⟩⟩
      case measure => simp [intOf]; omega
    · go_wp2
      go_ret
      exact ⟨rfl, m, rfl⟩

end Go.Proofs.Qxb6000022a
