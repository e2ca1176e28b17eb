import Derived.Test.Qxb6000022aQuoted
namespace Go.Proofs.Qxb6000022a
open Go.RowKit

/-- zzClone: the same bytes, in memory of its own (nil stays nil). -/
theorem clone_reads (A : Option Addr) (n c : Nat) (Z : List Int) (w : World) (hZ : Z.length = n) (hn : n ≤ 1048576) (r : Reads w A c Z) :
    Calls Try.prog 9 #[.slice A n c] w fun e w' => ∃ A' c', e = .returned (.slice A' n c') ∧ Reads w' A' c' Z ∧ Below w.heap.size w w' := by
  cases A with
  | none =>
    obtain ⟨h1, h2⟩ := r.nil rfl
    obtain rfl : n = 0 := by omega
    subst h2
    refine (clone_nil w).mono ?_
    rintro e w' ⟨rfl, rfl⟩
    exact ⟨none, 0, rfl, ⟨fun _ => ⟨h1, rfl⟩, by omega, fun a ha => by cases ha⟩, Below.refl _ _⟩
  | some a =>
    refine (clone_some a n c (fun i => Z.getD i 0) w hn (fun i hi => r.cell a rfl i (by omega))).mono ?_
    rintro e w' ⟨rfl, hrow, _, hb⟩
    refine ⟨some ⟨w.heap.size, 0, none⟩, n, rfl, ⟨(fun h => by cases h), by omega, fun a ha i hi => ?_⟩, hb⟩
    obtain rfl := Option.some.inj ha
    rw [Addr.add_lit, Nat.zero_add]
    exact hrow.cell (by omega)

theorem bytes15_yes (A1 A2 A3 : Option Addr) (n1 n2 n3 c1 c2 c3 : Nat) (w : World) (h1 : n1 ≤ 65536) (h2 : n2 ≤ 65536) (h3 : n3 ≤ 65536) :
    Calls Try.prog 15 #[.slice A1 n1 c1, .slice A2 n2 c2, .slice A3 n3 c3] w fun e w' => e = .returned (.bool true) ∧ w' = w := by
  go_enter Try.func15, Try.ntmps15
  go_wp2
  go_ret
  exact ⟨rfl, rfl⟩

theorem bytes15_any (A1 A2 A3 : Option Addr) (n1 n2 n3 c1 c2 c3 : Nat) (w : World) :
    Calls Try.prog 15 #[.slice A1 n1 c1, .slice A2 n2 c2, .slice A3 n3 c3] w fun e w' => (∃ b, e = .returned (.bool b)) ∧ w' = w := by
  by_cases h1 : 1048576 < n1
  · go_enter Try.func15, Try.ntmps15
    go_wp2
    go_ret
    exact ⟨⟨_, rfl⟩, rfl⟩
  by_cases h2 : 1048576 < n2
  · go_enter Try.func15, Try.ntmps15
    go_wp2
    go_ret
    exact ⟨⟨_, rfl⟩, rfl⟩
  by_cases h3 : 1048576 < n1 + n2
  · go_enter Try.func15, Try.ntmps15
    go_wp2
    go_ret
    exact ⟨⟨_, rfl⟩, rfl⟩
  by_cases h4 : 1048576 < n3
  · go_enter Try.func15, Try.ntmps15
    go_wp2
    go_ret
    exact ⟨⟨_, rfl⟩, rfl⟩
  by_cases h5 : 1048576 < n1 + n2 + n3
  all_goals
    go_enter Try.func15, Try.ntmps15
    go_wp2
    go_ret
    exact ⟨⟨_, rfl⟩, rfl⟩

theorem bytes12_yes (A1 A2 A3 : Option Addr) (n1 n2 n3 c1 c2 c3 : Nat) (w : World) (h1 : n1 ≤ 65536) (h2 : n2 ≤ 65536) (h3 : n3 ≤ 65536) :
    Calls Try.prog 12 #[.slice A1 n1 c1, .slice A2 n2 c2, .slice A3 n3 c3] w fun e w' => e = .returned (.bool true) ∧ w' = w := by
  go_enter Try.func12, Try.ntmps12
  go_wp2
  go_ret
  exact ⟨rfl, rfl⟩

theorem bytes12_any (A1 A2 A3 : Option Addr) (n1 n2 n3 c1 c2 c3 : Nat) (w : World) :
    Calls Try.prog 12 #[.slice A1 n1 c1, .slice A2 n2 c2, .slice A3 n3 c3] w fun e w' => (∃ b, e = .returned (.bool b)) ∧ w' = w := by
  by_cases h1 : 1048576 < n1
  · go_enter Try.func12, Try.ntmps12
    go_wp2
    go_ret
    exact ⟨⟨_, rfl⟩, rfl⟩
  by_cases h2 : 1048576 < n2
  · go_enter Try.func12, Try.ntmps12
    go_wp2
    go_ret
    exact ⟨⟨_, rfl⟩, rfl⟩
  by_cases h3 : 1048576 < n1 + n2
  · go_enter Try.func12, Try.ntmps12
    go_wp2
    go_ret
    exact ⟨⟨_, rfl⟩, rfl⟩
  by_cases h4 : 1048576 < n3
  · go_enter Try.func12, Try.ntmps12
    go_wp2
    go_ret
    exact ⟨⟨_, rfl⟩, rfl⟩
  by_cases h5 : 1048576 < n1 + n2 + n3
  all_goals
    go_enter Try.func12, Try.ntmps12
    go_wp2
    go_ret
    exact ⟨⟨_, rfl⟩, rfl⟩

end Go.Proofs.Qxb6000022a
