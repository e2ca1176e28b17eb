import Derived.Test.Qxb6000404aAt
namespace Go.Proofs.Qxb6000404a
open Go.RowKit

theorem field0 (w : World) (a b : Int) : (Instr.field 59 (.agg #[.int .i32 a, .int .i32 b]) 0).run Try.prog w = .ok (.int .i32 a) w := by kernel_rfl
theorem field1 (w : World) (a b : Int) : (Instr.field 59 (.agg #[.int .i32 a, .int .i32 b]) 1).run Try.prog w = .ok (.int .i32 b) w := by kernel_rfl

set_option maxRecDepth 100000 in
set_option maxHeartbeats 1000000 in
/-- (*noteList).within: how many of the notes before i end at or before its start. -/
theorem within_any (Lb i : Nat) (cv : Value) (S E : Nat → Int) (w : World) (hi : i ≤ 4194304) (hc : w.cell? ⟨Lb, 0, none⟩ = some cv) (hv : ∀ j, j ≤ i → NoteV w cv j (S j) (E j)) (hmono : ∀ j j', j ≤ j' → j' < i → E j ≤ E j') :
    Calls Try.prog 24 #[.pointer (some ⟨Lb, 0, none⟩), .int .i64 i] w fun e w' => ∃ lo : Nat, e = .returned (.int .i64 lo) ∧ lo ≤ i ∧ (∀ j, j < lo → E j ≤ S i) ∧ (∀ j, lo ≤ j → j < i → S i < E j) ∧ Below w.heap.size w w' := by
  have HC : Hid (w.cell? ⟨Lb, 0, none⟩ = some cv) := hc
  have HV : Hid (∀ j, j ≤ i → NoteV w cv j (S j) (E j)) := hv
  have HM : Hid (∀ j j', j ≤ j' → j' < i → E j ≤ E j') := hmono
  clear hc hv hmono
  have fl0 := field0
  have fl1 := field1
  go_enter Try.func24, Try.ntmps24
  go_wp2_with fail
  refine (at_any Lb 0 i cv (S i) (E i) w hi HC.out (HV.out i (Nat.le_refl _))).mono ?_
  rintro e w1 ⟨rfl, hb1⟩
  have HB1 : Hid (Below w.heap.size w w1) := hb1
  clear hb1
  go_wp2_with fail
  go_loopw [6, 7, 8] (fun s t u wr => ∃ h p : Nat, s = .int .i64 0 ∧ t = .int .i64 h ∧ u = .int .i64 p ∧ h ≤ i ∧ 1 ≤ p ∧ p ≤ 2 * i + 1 ∧ (∀ j, h ≤ j → j < i → S i < E j) ∧ Below w.heap.size w wr)
    (fun _ t _ _ => (intOf t).toNat)
  case atStart => exact ⟨i, 1, rfl, rfl, rfl, Nat.le_refl _, by omega, by omega, fun j h1 h2 => by omega, HB1.out⟩
  case round =>
    obtain ⟨h, p, rfl, rfl, rfl, hh, hp1, hp2, hhi, hbel⟩ := hrel
    have HH : Hid (∀ j, h ≤ j → j < i → S i < E j) := hhi
    have HB : Hid (Below w.heap.size w wr) := hbel
    clear hhi hbel
    by_cases hle : p ≤ h
    · obtain ⟨q, hq⟩ : ∃ q, q + p = h := ⟨h - p, by omega⟩
      have e1 : (h : Int) - (p : Int) = (q : Int) := by omega
      have HQ : Hid (q + p = h) := hq
      have hqi : q < i := by omega
      clear hq
      go_wp2_with fail
      refine (at_any Lb 0 q cv (S q) (E q) wr (by omega) (cell_later HB.out HC.out) ((HV.out q (by omega)).later HB.out)).mono ?_
      rintro e w2 ⟨rfl, hb2⟩
      have HB2 : Hid (Below w.heap.size w w2) := HB.out.trans (hb2.mono HB.out.size)
      clear hb2
      by_cases hE : E q ≤ S i
      · have HLo : Hid (∀ j, j < q + 1 → E j ≤ S i) := fun j hj => Int.le_trans (HM.out j q (by omega) hqi) hE
        go_wp2_with fail
        go_loopw [6, 7] (fun s t wr => ∃ a b : Nat, s = .int .i64 a ∧ t = .int .i64 b ∧ a ≤ b ∧ b ≤ i ∧ (∀ j, j < a → E j ≤ S i) ∧ (∀ j, b ≤ j → j < i → S i < E j) ∧ Below w.heap.size w wr)
          (fun s t _ => (intOf t).toNat - (intOf s).toNat)
        case atStart => exact ⟨q + 1, h, by go_num, rfl, by have := HQ.out; omega, hh, HLo.out, HH.out, HB2.out⟩
        case round =>
          obtain ⟨a, b, rfl, rfl, hab, hbi, hlo, hhi, hbel⟩ := hrel
          have HLo : Hid (∀ j, j < a → E j ≤ S i) := hlo
          have HHi : Hid (∀ j, b ≤ j → j < i → S i < E j) := hhi
          have HB' : Hid (Below w.heap.size w wr) := hbel
          clear hlo hhi hbel
          by_cases hlt : a < b
          · obtain ⟨m, hm1, hm2, hm3⟩ : ∃ m : Nat, m = (a + b) / 2 ∧ a ≤ m ∧ m < b := ⟨(a + b) / 2, rfl, by omega, by omega⟩
            have em : ((a : Int) + (b : Int)) / 2 = (m : Int) := by omega
            clear hm1
            go_wp2_with fail
            refine (at_any Lb 0 m cv (S m) (E m) wr (by omega) (cell_later HB'.out HC.out) ((HV.out m (by omega)).later HB'.out)).mono ?_
            rintro e w3 ⟨rfl, hb3⟩
            have HB3 : Hid (Below w.heap.size w w3) := HB'.out.trans (hb3.mono HB'.out.size)
            clear hb3
            by_cases hE : S i < E m
            · go_wp2_with fail
              go_roundw
              case rel =>
                refine ⟨a, m, rfl, rfl, hm2, by omega, HLo.out, fun j h1 h2 => ?_, HB3.out⟩
                exact Int.lt_of_lt_of_le hE (HM.out m j h1 h2)
              case measure => simp [intOf]; omega
            · have hE' : E m ≤ S i := by omega
              go_wp2_with fail
              go_roundw
              case rel =>
                refine ⟨m + 1, b, by go_num, rfl, by omega, hbi, fun j hj => ?_, HHi.out, HB3.out⟩
                exact Int.le_trans (HM.out j m (by omega) (by omega)) hE'
              case measure => simp [intOf]; omega
          · have hab' : a = b := by omega
            subst hab'
            go_wp2_with fail
            go_ret
            exact ⟨a, rfl, hbi, HLo.out, HHi.out, HB'.out⟩
      · have hE' : S i < E q := by omega
        go_wp2_with fail
        go_roundw
        case rel =>
          refine ⟨q, 2 * p, rfl, rfl, by go_num, by omega, by omega, by have := HQ.out; omega, fun j h1 h2 => ?_, HB2.out⟩
          by_cases e : h ≤ j
          · exact HH.out j e h2
          · exact Int.lt_of_lt_of_le hE' (HM.out q j h1 h2)
        case measure => have := HQ.out; simp [intOf]; omega
    · go_wp2_with fail
      go_loopw [6, 7] (fun s t wr => ∃ a b : Nat, s = .int .i64 a ∧ t = .int .i64 b ∧ a ≤ b ∧ b ≤ i ∧ (∀ j, j < a → E j ≤ S i) ∧ (∀ j, b ≤ j → j < i → S i < E j) ∧ Below w.heap.size w wr)
        (fun s t _ => (intOf t).toNat - (intOf s).toNat)
      case atStart => exact ⟨0, h, rfl, rfl, by omega, hh, fun j hj => by omega, HH.out, HB.out⟩
      case round =>
        obtain ⟨a, b, rfl, rfl, hab, hbi, hlo, hhi, hbel⟩ := hrel
        have HLo : Hid (∀ j, j < a → E j ≤ S i) := hlo
        have HHi : Hid (∀ j, b ≤ j → j < i → S i < E j) := hhi
        have HB' : Hid (Below w.heap.size w wr) := hbel
        clear hlo hhi hbel
        by_cases hlt : a < b
        · obtain ⟨m, hm1, hm2, hm3⟩ : ∃ m : Nat, m = (a + b) / 2 ∧ a ≤ m ∧ m < b := ⟨(a + b) / 2, rfl, by omega, by omega⟩
          have em : ((a : Int) + (b : Int)) / 2 = (m : Int) := by omega
          clear hm1
          go_wp2_with fail
          refine (at_any Lb 0 m cv (S m) (E m) wr (by omega) (cell_later HB'.out HC.out) ((HV.out m (by omega)).later HB'.out)).mono ?_
          rintro e w3 ⟨rfl, hb3⟩
          have HB3 : Hid (Below w.heap.size w w3) := HB'.out.trans (hb3.mono HB'.out.size)
          clear hb3
          by_cases hE : S i < E m
          · go_wp2_with fail
            go_roundw
            case rel =>
              refine ⟨a, m, rfl, rfl, hm2, by omega, HLo.out, fun j h1 h2 => ?_, HB3.out⟩
              exact Int.lt_of_lt_of_le hE (HM.out m j h1 h2)
            case measure => simp [intOf]; omega
          · have hE' : E m ≤ S i := by omega
            go_wp2_with fail
            go_roundw
            case rel =>
              refine ⟨m + 1, b, by go_num, rfl, by omega, hbi, fun j hj => ?_, HHi.out, HB3.out⟩
              exact Int.le_trans (HM.out j m (by omega) (by omega)) hE'
            case measure => simp [intOf]; omega
        · have hab' : a = b := by omega
          subst hab'
          go_wp2_with fail
          go_ret
          exact ⟨a, rfl, hbi, HLo.out, HHi.out, HB'.out⟩

end Go.Proofs.Qxb6000404a
