import Derived.Test.Qxb6000404aCounts
namespace Go.Proofs.Qxb6000404a
open Go.RowKit

theorem bytes14_yes (A1 A2 : Option Addr) (n1 n2 c1 c2 : Nat) (i : Int) (w : World) (h : n1 + n2 ≤ 1048576) :
    Calls Try.prog 14 #[.slice A1 n1 c1, .slice A2 n2 c2, .int .i64 i] w fun e w' => e = .returned (.bool true) ∧ w' = w := by
  go_enter Try.func14, Try.ntmps14
  go_wp2
  go_ret
  exact ⟨rfl, rfl⟩

theorem bytes14_no (A1 A2 : Option Addr) (n1 n2 c1 c2 : Nat) (i : Int) (w : World) (h : 1048576 < n1 + n2) :
    Calls Try.prog 14 #[.slice A1 n1 c1, .slice A2 n2 c2, .int .i64 i] w fun e w' => e = .returned (.bool false) ∧ w' = w := by
  by_cases h1 : 1048576 < n1
  · clear h
    go_enter Try.func14, Try.ntmps14
    go_wp2
    go_ret
    exact ⟨rfl, rfl⟩
  by_cases h2 : 1048576 < n2
  · clear h
    go_enter Try.func14, Try.ntmps14
    go_wp2
    go_ret
    exact ⟨rfl, rfl⟩
  go_enter Try.func14, Try.ntmps14
  go_wp2
  go_ret
  exact ⟨rfl, rfl⟩

theorem nested_out (A1 A2 : Option Addr) (n1 n2 c1 c2 : Nat) (i : Int) (w : World) (h : 1048576 < 4 * n1 + 4 * n2 ∨ n1 ≠ n2 ∨ i < 0 ∨ (n1 : Int) ≤ i) :
    Calls Try.prog 5 #[.slice A1 n1 c1, .slice A2 n2 c2, .int .i64 i] w fun e w' => e = .returned (.bool true) ∧ Below w.heap.size w w' := by
  by_cases hb : n1 + n2 ≤ 1048576
  · by_cases h1 : 1048576 < 4 * n1 + 4 * n2
    · clear h
      go_enter Try.func5, Try.ntmps5
      go_wp2_with (go_at_call 14; refine (bytes14_yes _ _ _ _ _ _ _ _ hb).mono ?_; rintro e w' ⟨rfl, hw'⟩; subst w')
      go_ret
      exact ⟨rfl, Below.refl _ _⟩
    by_cases h2 : n1 = n2
    · subst h2
      by_cases h3 : i < 0
      · clear h
        go_enter Try.func5, Try.ntmps5
        go_wp2_with (go_at_call 14; refine (bytes14_yes _ _ _ _ _ _ _ _ hb).mono ?_; rintro e w' ⟨rfl, hw'⟩; subst w')
        go_ret
        exact ⟨rfl, Below.refl _ _⟩
      · have h4 : (n1 : Int) ≤ i := by omega
        clear h
        go_enter Try.func5, Try.ntmps5
        go_wp2_with (go_at_call 14; refine (bytes14_yes _ _ _ _ _ _ _ _ hb).mono ?_; rintro e w' ⟨rfl, hw'⟩; subst w')
        go_ret
        exact ⟨rfl, Below.refl _ _⟩
    · have h2' : ((n1 : Int) != (n2 : Int)) = true := by simp; omega
      clear h h2
      go_enter Try.func5, Try.ntmps5
      go_wp2_with (go_at_call 14; refine (bytes14_yes _ _ _ _ _ _ _ _ hb).mono ?_; rintro e w' ⟨rfl, hw'⟩; subst w')
      go_ret
      exact ⟨rfl, Below.refl _ _⟩
  · have hb' : 1048576 < n1 + n2 := by omega
    clear h hb
    go_enter Try.func5, Try.ntmps5
    go_wp2_with (go_at_call 14; refine (bytes14_no _ _ _ _ _ _ _ _ hb').mono ?_; rintro e w' ⟨rfl, hw'⟩; subst w')
    go_ret
    exact ⟨rfl, Below.refl _ _⟩

set_option maxRecDepth 100000 in
set_option maxHeartbeats 2000000 in
theorem nested_some (b1 o1 c1 b2 o2 c2 n i : Nat) (S E : Nat → Int) (w : World) (hn : 8 * n ≤ 1048576) (hi : i < n)
    (hS : ∀ i, i < n → w.cell? ⟨b1, o1 + i, none⟩ = some (.int .i32 (S i))) (hE : ∀ i, i < n → w.cell? ⟨b2, o2 + i, none⟩ = some (.int .i32 (E i))) :
    Calls Try.prog 5 #[.slice (some ⟨b1, o1, none⟩) n c1, .slice (some ⟨b2, o2, none⟩) n c2, .int .i64 i] w fun e w' => e = .returned (.bool true) ∧ Below w.heap.size w w' := by
  have HS : Hid (∀ i, i < n → w.cell? ⟨b1, o1 + i, none⟩ = some (.int .i32 (S i))) := hS
  have HE : Hid (∀ i, i < n → w.cell? ⟨b2, o2 + i, none⟩ = some (.int .i32 (E i))) := hE
  clear hS hE
  have d1 : decide ((1048576 : Int) < 4 * (n : Int) + 4 * (n : Int)) = false := by simp; omega
  have d2 : decide ((i : Int) < 0) = false := by simp
  have d3 : decide (n ≤ i) = false := by simp; omega
  have hii : (i : Int) < (n : Int) := by omega
  go_enter Try.func5, Try.ntmps5
  go_wp2_with (go_at_call 14; refine (bytes14_yes _ _ _ _ _ _ _ _ (by omega)).mono ?_; rintro e w' ⟨rfl, hw'⟩; subst w')
  go_loopw [7] (fun t wr => ∃ k : Nat, 1 ≤ k ∧ k ≤ n ∧ t = .int .i64 k ∧ (∃ m, wr = w.drewN m) ∧ ∀ j, j + 1 < k → E j < E (j + 1)) (fun t _ => n - (intOf t).toNat)
  case atStart => exact ⟨1, by omega, by omega, rfl, ⟨0, rfl⟩, fun j hj => by omega⟩
  case round =>
    obtain ⟨k, hk1, hk2, rfl, ⟨m, rfl⟩, hm⟩ := hrel
    have HM : Hid (∀ j, j + 1 < k → E j < E (j + 1)) := hm
    clear hm
    by_cases hkn : k < n
    · have g1 := HE.out k hkn
      have g2 := HE.out (k - 1) (by omega)
      have e1 : (k : Int) - 1 = ((k - 1 : Nat) : Int) := by omega
      have hki : (k : Int) < (n : Int) := by omega
      have hki' : ((k - 1 : Nat) : Int) < (n : Int) := by omega
      by_cases hlt : E k ≤ E (k - 1)
      · go_wp2
        go_quiet (fail)
        go_wp2
        go_ret
        exact ⟨rfl, below_drewN (below_drewN (Below.refl _ _) _) _⟩
      · have HK : Hid (∀ j, j + 1 < k + 1 → E j < E (j + 1)) := fun j hj => by
          by_cases e : j + 1 = k
          · have e' : j = k - 1 := by omega
            rw [e, e']; omega
          · exact HM.out j (by omega)
        go_wp2
        go_quiet (fail)
        go_wp2
        go_roundw
        case rel => exact ⟨k + 1, by omega, by omega, by go_num, ⟨_, rfl⟩, HK.out⟩
        case measure => simp [intOf]; omega
    · have hmono : ∀ j j', j ≤ j' → j' < n → E j ≤ E j' := by
        intro j j' hj
        induction hj with
        | refl => intro _; exact Int.le_refl _
        | step _ ih => intro h; exact Int.le_trans (ih (by omega)) (Int.le_of_lt (HM.out _ (by omega)))
      have HMM : Hid (∀ j j', j ≤ j' → j' < n → E j ≤ E j') := hmono
      have sS := HS.out i hi
      have sE := HE.out i hi
      clear hmono
      by_cases hse : E i ≤ S i
      · go_wp2
        go_ret
        exact ⟨rfl, below_drewN (Below.refl _ _) _⟩
      have hse' : decide (E i ≤ S i) = false := by simp; omega
      go_wp2_with fail
      go_loop [9] (fun t => ∃ j : Nat, j ≤ i ∧ t = .int .i64 j ∧ ∀ j', j' < j → S i < E j' → S i ≤ S j') (fun t => i - (intOf t).toNat)
      case atStart => exact ⟨0, by omega, rfl, fun j' h => by omega⟩
      case round =>
        obtain ⟨j, hj, rfl, hnest⟩ := hrel
        have HN : Hid (∀ j', j' < j → S i < E j' → S i ≤ S j') := hnest
        clear hnest
        by_cases hji : j < i
        · have tS := HS.out j (by omega)
          have tE := HE.out j (by omega)
          have hjn : (j : Int) < (n : Int) := by omega
          by_cases c1 : S i < E j
          · by_cases c2 : S j < S i
            · go_wp2
              go_ret
              exact ⟨rfl, below_drewN (Below.refl _ _) _⟩
            · go_wp2
              go_round
              case rel =>
                refine ⟨j + 1, by omega, by go_num, fun j' h1 h2 => ?_⟩
                by_cases e : j' = j
                · subst e; omega
                · exact HN.out j' (by omega) h2
              case measure => simp [intOf]; omega
          · go_wp2
            go_round
            case rel =>
              refine ⟨j + 1, by omega, by go_num, fun j' h1 h2 => ?_⟩
              by_cases e : j' = j
              · subst e; omega
              · exact HN.out j' (by omega) h2
            case measure => simp [intOf]; omega
        · have hji' : j = i := by omega
          subst hji'
          clear sS sE
          go_wp2_with fail
          refine (clone32_some ⟨b1, o1, none⟩ n c1 S (w.drewN m) (by omega) (fun j hj => by rw [Addr.add_lit]; exact HS.out j hj)).mono ?_
          rintro e w1 ⟨rfl, row1, sz1, bl1⟩
          have BL1 : Hid (Below w.heap.size w w1) := (below_drewN (Below.refl _ _) m).trans bl1
          have ROW1 : Hid (∀ j, j < n → w1.cell? ⟨w.heap.size, 0 + j, none⟩ = some (.int .i32 (S j))) := fun j hj => by rw [Nat.zero_add]; exact row1.cell hj
          clear row1 sz1 bl1
          go_wp2_with fail
          refine (clone32_some ⟨b2, o2, none⟩ n c2 E w1 (by omega) (fun j hj => by rw [Addr.add_lit]; exact cell_later BL1.out (HE.out j hj))).mono ?_
          rintro e w2 ⟨rfl, row2, sz2, bl2⟩
          have BL2 : Hid (Below w.heap.size w w2) := BL1.out.trans (bl2.mono BL1.out.size)
          have hS2 : ∀ j, j < n → w2.cell? ⟨w.heap.size, 0 + j, none⟩ = some (.int .i32 (S j)) := fun j hj => cell_later bl2 (ROW1.out j hj)
          have hE2 : ∀ j, j < n → w2.cell? ⟨w1.heap.size, 0 + j, none⟩ = some (.int .i32 (E j)) := fun j hj => by rw [Nat.zero_add]; exact row2.cell hj
          have S2 : Hid (∀ j, j < n → w2.cell? ⟨w.heap.size, 0 + j, none⟩ = some (.int .i32 (S j))) := hS2
          have E2 : Hid (∀ j, j < n → w2.cell? ⟨w1.heap.size, 0 + j, none⟩ = some (.int .i32 (E j))) := hE2
          clear row2 sz2 bl2 ROW1 hS2 hE2
          go_wp2_with fail
          refine (zwithin_any w.heap.size 0 n w1.heap.size 0 n n j S E w2 (by omega) hi S2.out E2.out (fun a b h1 h2 => HMM.out a b h1 (by omega))).mono ?_
          rintro e w3 ⟨lo, rfl, r1, r2, r3, r4⟩
          have BL3 : Hid (Below w.heap.size w w3) := BL2.out.trans (r4.mono BL2.out.size)
          have S3 : Hid (∀ j, j < n → w3.cell? ⟨w.heap.size, j, none⟩ = some (.int .i32 (S j))) := fun j hj => by have := cell_later r4 (S2.out j hj); rw [Nat.zero_add] at this; exact this
          have E3 : Hid (∀ j, j < n → w3.cell? ⟨w1.heap.size, j, none⟩ = some (.int .i32 (E j))) := fun j hj => by have := cell_later r4 (E2.out j hj); rw [Nat.zero_add] at this; exact this
          have R2 : Hid (∀ t, t < lo → E t ≤ S j) := r2
          have R3 : Hid (∀ t, lo ≤ t → t < j → S j < E t) := r3
          have l1 : decide ((lo : Int) < 0) = false := by simp
          have l2 : decide (j < lo) = false := by simp; omega
          clear r2 r3 r4
          go_wp2_with fail
          go_loopw [11] (fun t wr => ∃ a : Nat, lo ≤ a ∧ a ≤ j ∧ t = .int .i64 a ∧ ∃ m, wr = w3.drewN m) (fun t _ => j - (intOf t).toNat)
          case atStart => exact ⟨lo, by omega, by omega, rfl, 0, rfl⟩
          case round =>
            obtain ⟨a, ha1, ha2, rfl, m3, rfl⟩ := hrel
            by_cases haj : a < j
            · have ra := R3.out a ha1 haj
              have na := HN.out a haj ra
              have xS := S3.out a (by omega)
              have xE := E3.out a (by omega)
              have xI := E3.out j hi
              have v1 : decide (S a < S j) = false := by simp; omega
              have v2 : decide (E j < E a) = false := by have := HMM.out a j (by omega) hi; simp; omega
              have v3 : decide (E a ≤ S j) = false := by simp; omega
              have ka : (a : Int) < (n : Int) := by omega
              go_wp2
              go_quiet (fail)
              go_wp2
              go_roundw
              case rel => exact ⟨a + 1, by omega, by omega, by go_num, _, rfl⟩
              case measure => simp [intOf]; omega
            · go_wp2_with fail
              go_loop [12] (fun t => ∃ b : Nat, b ≤ lo ∧ t = .int .i64 b) (fun t => lo - (intOf t).toNat)
              case atStart => exact ⟨0, by omega, rfl⟩
              case round =>
                obtain ⟨b, hb, rfl⟩ := hrel
                by_cases hbl : b < lo
                · have rb := R2.out b hbl
                  have yE := E3.out b (by omega)
                  have kb : (b : Int) < (n : Int) := by omega
                  go_wp2
                  go_round
                  case rel => exact ⟨b + 1, by omega, by go_num⟩
                  case measure => simp [intOf]; omega
                · go_wp2
                  go_ret
                  exact ⟨rfl, below_drewN BL3.out _⟩

end Go.Proofs.Qxb6000404a
