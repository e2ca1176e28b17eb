import Derived.Test.Qxb6000404aProg
import Derived.WalkKit
import Derived.WalkSpells
import Derived.WalkLawsBesides
import Derived.Deep.OwnRows
import Derived.Deep.QuietTactic
import Derived.BigQuiet
import Derived.Below
namespace Go.Proofs.Qxb6000404a
open Go.RowKit

theorem Try.info21 : (Try.prog.info? 21).map (fun i => (i.zero, i.size, i.bytes)) = some (some (.int .i32 0), 1, 4) := by kernel_rfl

/-- A row of numbers with at least one element begins at a plain address. -/
theorem row_plain {w : World} {k : IntKind} {A : Addr} {n : Nat} {z : Nat → Int} (h0 : 0 < n) (hb : ∀ i, i < n → w.cell? (A.add i) = some (.int k (z i))) :
    ∃ b o, A = ⟨b, o, none⟩ ∧ b < w.heap.size ∧ ∀ i, i < n → w.cell? ⟨b, o + i, none⟩ = some (.int k (z i)) := by
  obtain ⟨b, o, sp⟩ := A
  have h := hb 0 h0
  have hsp : sp = none := by simpa [Addr.add] using World.cell?_spot h
  subst hsp
  refine ⟨b, o, rfl, ?_, fun i hi => by rw [← Addr.add_lit]; exact hb i hi⟩
  have := World.block_lt_of_cell? w _ h
  simpa [Addr.add] using this

/-- The clone of nil is nil. -/
theorem clone32_nil (w : World) :
    Calls Try.prog 12 #[.slice none 0 0] w fun e w' => e = .returned (.slice none 0 0) ∧ w' = w := by
  have h1 := fun w => Lib.run_eql_slice_nil (P := Try.prog) w 27 21 none 0 0 0 0 Try.underlying27
  go_enter Try.func12, Try.ntmps12
  go_wp2
  go_ret
  exact ⟨rfl, rfl⟩

/-- The clone of a slice that is not nil: a new row with the same bytes. -/
theorem clone32_some (A : Addr) (n c : Nat) (z : Nat → Int) (w : World) (hn : n ≤ 1048576) (hb : ∀ i, i < n → w.cell? (A.add i) = some (.int .i32 (z i))) :
    Calls Try.prog 12 #[.slice (some A) n c] w fun e w' => e = .returned (.slice (some ⟨w.heap.size, 0, none⟩) n n) ∧ w'.rowIs w.heap.size 21 n (fun i => .int .i32 (z i)) ∧ w'.heap.size = w.heap.size + 1 ∧ Below w.heap.size w w' := by
  have h1 := fun w => Lib.run_eql_slice_nil (P := Try.prog) w 27 21 (some A) n c 0 0 Try.underlying27
  have hmk := run_make_row' (P := Try.prog) 27 21 (.int .i32 0) 4 Try.underlying27 Try.info21 rfl .i64 .i64 n (by omega) (by omega)
  go_enter Try.func12, Try.ntmps12
  go_wp2
  go_loopw [4] (fun i wr => ∃ k : Nat, k ≤ n ∧ i = .int .i64 k ∧ wr.rowIs w.heap.size 21 n (fun i => if i < k then .int .i32 (z i) else .int .i32 0) ∧ wr.heap.size = w.heap.size + 1 ∧ Below w.heap.size w wr)
    (fun i _ => n - (intOf i).toNat)
  case atStart => exact ⟨0, Nat.zero_le _, rfl, (World.rowIs_made _ _ _ _).congr (by intro i hi; simp), by simp, (Below.refl _ _).alloc (Nat.le_refl _) _⟩
  case round =>
    obtain ⟨k, hk, rfl, hrow, hsz, hbel⟩ := hrel
    have HB : Hid (Below w.heap.size w wr) := hbel
    by_cases hlt : k < n
    · obtain ⟨b, o, rfl, hblt, hb'⟩ := row_plain (by omega) hb
      have hc : wr.cell? ⟨b, o + k, none⟩ = some (.int .i32 (z k)) := (hbel.cell (p := ⟨b, o + k, none⟩) hblt).trans (hb' k hlt)
      have hw0 := hrow.cell hlt
      have hf := hrow.frozen k
      have HR : Hid (wr.rowIs w.heap.size 21 n (fun i => if i < k then .int .i32 (z i) else .int .i32 0)) := hrow
      have HS : Hid (wr.heap.size = w.heap.size + 1) := hsz
      clear hrow h1 hmk hb hb' hsz hbel
      go_wp2
      go_roundw
      case rel =>
        refine ⟨k + 1, by omega, by go_num, (HR.out.set k (.int .i32 (z k))).congr ?_, ?_, HB.out.setCell (Nat.le_refl _) _⟩
        · intro i hi
          by_cases e : i = k
          · subst e; simp
          · have : i < k + 1 ↔ i < k := by omega
            simp [e, this]
        · have := HS.out; simp [World.setCell]; exact this
      case measure => simp [intOf]; omega
    · clear h1 hmk hb
      have HR : Hid (wr.rowIs w.heap.size 21 n (fun i => if i < k then .int .i32 (z i) else .int .i32 0)) := hrow
      have HS : Hid (wr.heap.size = w.heap.size + 1) := hsz
      clear hrow hsz hbel
      go_wp2
      go_ret
      exact ⟨rfl, HR.out.congr (by intro i hi; simp; omega), HS.out, HB.out⟩

end Go.Proofs.Qxb6000404a
