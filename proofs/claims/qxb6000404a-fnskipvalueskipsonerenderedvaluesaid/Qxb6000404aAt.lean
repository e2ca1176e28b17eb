import Derived.Test.Qxb6000404aNotes
namespace Go.Proofs.Qxb6000404a
open Go.RowKit

set_option maxHeartbeats 1000000 in
/-- (*noteList).at: the note's two numbers. -/
theorem at_any (Lb Lo i : Nat) (cv : Value) (s e : Int) (w : World) (hi : i ≤ 4194304) (hc : w.cell? ⟨Lb, Lo, none⟩ = some cv) (hv : NoteV w cv i s e) :
    Calls Try.prog 27 #[.pointer (some ⟨Lb, Lo, none⟩), .int .i64 i] w fun r w' => r = .returned (.agg #[.int .i32 s, .int .i32 e]) ∧ Below w.heap.size w w' := by
  obtain ⟨g, nc, cap, hb, cn, cp, rfl, h1, h2, h3, h4, h5⟩ := hv
  have l0 := World.block_lt_of_cell? w _ hc
  have l1 := World.block_lt_of_cell? w _ h2
  have l2 := World.block_lt_of_cell? w _ h4
  simp only at l0 l1 l2
  have k1 : (i : Int) / 1024 < (nc : Int) := by omega
  have k2 : (i : Int) % 1024 < (cn : Int) := by omega
  have a0 : ∀ o, (w.alloc o).cell? ⟨Lb, Lo, none⟩ = some (.slice (some ⟨g, 0, none⟩) nc cap) := fun o => cell_later ((Below.refl _ _).alloc (Nat.le_refl _) _) hc
  have a1 : ∀ o, (w.alloc o).cell? ⟨g, i / 1024, none⟩ = some (.slice (some ⟨hb, 0, none⟩) cn cp) := fun o => cell_later ((Below.refl _ _).alloc (Nat.le_refl _) _) h2
  have a2 : ∀ o, (w.alloc o).cell? ⟨hb, i % 1024 * 2, none⟩ = some (.int .i32 s) := fun o => cell_later ((Below.refl _ _).alloc (Nat.le_refl _) _) h4
  have a3 : ∀ o, (w.alloc o).cell? ⟨hb, i % 1024 * 2 + 1, none⟩ = some (.int .i32 e) := fun o => cell_later ((Below.refl _ _).alloc (Nat.le_refl _) _) h5
  clear hc h2 h4 h5
  go_enter Try.func27, Try.ntmps27
  go_wp2
  exact bodyPost_ret (v := .agg #[.int .i32 s, .int .i32 e]) (by simp [results, Try.results27, go_sem]) rfl ⟨rfl, (Below.refl _ _).alloc (Nat.le_refl _) _⟩

end Go.Proofs.Qxb6000404a
