import Derived.Test.Qxb6000404aWithin
namespace Go.Proofs.Qxb6000404a
open Go.RowKit

set_option maxRecDepth 100000 in
set_option maxHeartbeats 1000000 in
/-- ZZWithin. -/
theorem zwithin_any (b1 o1 c1 b2 o2 c2 n i : Nat) (S E : Nat → Int) (w : World) (hn : n ≤ 4194304) (hi : i < n)
    (hS : ∀ i, i < n → w.cell? ⟨b1, o1 + i, none⟩ = some (.int .i32 (S i))) (hE : ∀ i, i < n → w.cell? ⟨b2, o2 + i, none⟩ = some (.int .i32 (E i))) (hmono : ∀ j j', j ≤ j' → j' < i → E j ≤ E j') :
    Calls Try.prog 13 #[.slice (some ⟨b1, o1, none⟩) n c1, .slice (some ⟨b2, o2, none⟩) n c2, .int .i64 i] w fun e w' => ∃ lo : Nat, e = .returned (.int .i64 lo) ∧ lo ≤ i ∧ (∀ j, j < lo → E j ≤ S i) ∧ (∀ j, lo ≤ j → j < i → S i < E j) ∧ Below w.heap.size w w' := by
  have HM : Hid (∀ j j', j ≤ j' → j' < i → E j ≤ E j') := hmono
  clear hmono
  go_enter Try.func13, Try.ntmps13
  go_wp2_with fail
  refine (notes_any b1 o1 c1 b2 o2 c2 n S E w hn hS hE).mono ?_
  rintro e w1 ⟨cv, rfl, hv, hb⟩
  clear hS hE
  have HV : Hid (∀ i, i < n → NoteV w1 cv i (S i) (E i)) := hv
  have HB : Hid (Below w.heap.size w w1) := hb
  clear hv hb
  obtain ⟨ao, an, ac, hcv⟩ : ∃ ao an ac, cv = .slice ao an ac := by
    obtain ⟨g, nc, cap, _, _, _, e, _⟩ := HV.out i hi
    exact ⟨_, _, _, e⟩
  subst hcv
  have hb1 : Below w1.heap.size w1 (w1.alloc (Obj.cells #[Value.slice ao an ac, Value.int IntKind.i64 ↑n] 45)) := (Below.refl _ _).alloc (Nat.le_refl _) _
  have HB1 : Hid (Below w1.heap.size w1 (w1.alloc (Obj.cells #[Value.slice ao an ac, Value.int IntKind.i64 ↑n] 45))) := hb1
  clear hb1
  go_wp2_with fail
  refine (within_any w1.heap.size i (.slice ao an ac) S E _ (by omega) (by simp) (fun j hj => (HV.out j (by omega)).later HB1.out) HM.out).mono ?_
  rintro e w2 ⟨lo, rfl, h1, h2, h3, h4⟩
  have R : Hid (lo ≤ i ∧ (∀ j, j < lo → E j ≤ S i) ∧ (∀ j, lo ≤ j → j < i → S i < E j) ∧ Below w.heap.size w w2) :=
    ⟨h1, h2, h3, (HB.out.alloc HB.out.size _).trans (h4.mono (by have := HB.out.size; simp; omega))⟩
  clear h1 h2 h3 h4
  go_wp2
  go_ret
  exact ⟨lo, rfl, R.out.1, R.out.2.1, R.out.2.2.1, R.out.2.2.2⟩

/-! ### The count -/
def cntLe (E : Nat → Int) (s : Int) : Nat → Nat
  | 0 => 0
  | j + 1 => cntLe E s j + (if E j ≤ s then 1 else 0)

theorem cntLe_le (E : Nat → Int) (s : Int) : ∀ j, cntLe E s j ≤ j
  | 0 => Nat.le_refl _
  | j + 1 => by have := cntLe_le E s j; unfold cntLe; split <;> omega

theorem cntLe_lo (E : Nat → Int) (s : Int) (lo i : Nat) (h1 : ∀ j, j < lo → E j ≤ s) (h2 : ∀ j, lo ≤ j → j < i → s < E j) : ∀ j, j ≤ i → cntLe E s j = min j lo
  | 0, _ => by simp [cntLe]
  | j + 1, hj => by
    have ih := cntLe_lo E s lo i h1 h2 j (by omega)
    unfold cntLe
    rw [ih]
    by_cases h : j < lo
    · rw [if_pos (h1 j h)]; omega
    · rw [if_neg (by have := h2 j (by omega) (by omega); omega)]; omega

theorem bytes11_yes (A1 A2 : Option Addr) (n1 n2 c1 c2 : Nat) (i : Int) (w : World) (h : n1 + n2 ≤ 1048576) :
    Calls Try.prog 11 #[.slice A1 n1 c1, .slice A2 n2 c2, .int .i64 i] w fun e w' => e = .returned (.bool true) ∧ w' = w := by
  go_enter Try.func11, Try.ntmps11
  go_wp2
  go_ret
  exact ⟨rfl, rfl⟩

theorem bytes11_no (A1 A2 : Option Addr) (n1 n2 c1 c2 : Nat) (i : Int) (w : World) (h : 1048576 < n1 + n2) :
    Calls Try.prog 11 #[.slice A1 n1 c1, .slice A2 n2 c2, .int .i64 i] w fun e w' => e = .returned (.bool false) ∧ w' = w := by
  by_cases h1 : 1048576 < n1
  · clear h
    go_enter Try.func11, Try.ntmps11
    go_wp2
    go_ret
    exact ⟨rfl, rfl⟩
  by_cases h2 : 1048576 < n2
  · clear h
    go_enter Try.func11, Try.ntmps11
    go_wp2
    go_ret
    exact ⟨rfl, rfl⟩
  go_enter Try.func11, Try.ntmps11
  go_wp2
  go_ret
  exact ⟨rfl, rfl⟩

theorem counts_out (A1 A2 : Option Addr) (n1 n2 c1 c2 : Nat) (i : Int) (w : World) (h : 1048576 < 4 * n1 + 4 * n2 ∨ n1 ≠ n2 ∨ i < 0 ∨ (n1 : Int) ≤ i) :
    Calls Try.prog 4 #[.slice A1 n1 c1, .slice A2 n2 c2, .int .i64 i] w fun e w' => e = .returned (.bool true) ∧ Below w.heap.size w w' := by
  by_cases hb : n1 + n2 ≤ 1048576
  · by_cases h1 : 1048576 < 4 * n1 + 4 * n2
    · clear h
      go_enter Try.func4, Try.ntmps4
      go_wp2_with (go_at_call 11; refine (bytes11_yes _ _ _ _ _ _ _ _ hb).mono ?_; rintro e w' ⟨rfl, hw'⟩; subst w')
      go_ret
      exact ⟨rfl, Below.refl _ _⟩
    by_cases h2 : n1 = n2
    · subst h2
      by_cases h3 : i < 0
      · clear h
        go_enter Try.func4, Try.ntmps4
        go_wp2_with (go_at_call 11; refine (bytes11_yes _ _ _ _ _ _ _ _ hb).mono ?_; rintro e w' ⟨rfl, hw'⟩; subst w')
        go_ret
        exact ⟨rfl, Below.refl _ _⟩
      · have h4 : (n1 : Int) ≤ i := by omega
        clear h
        go_enter Try.func4, Try.ntmps4
        go_wp2_with (go_at_call 11; refine (bytes11_yes _ _ _ _ _ _ _ _ hb).mono ?_; rintro e w' ⟨rfl, hw'⟩; subst w')
        go_ret
        exact ⟨rfl, Below.refl _ _⟩
    · have h2' : ((n1 : Int) != (n2 : Int)) = true := by simp; omega
      clear h h2
      go_enter Try.func4, Try.ntmps4
      go_wp2_with (go_at_call 11; refine (bytes11_yes _ _ _ _ _ _ _ _ hb).mono ?_; rintro e w' ⟨rfl, hw'⟩; subst w')
      go_ret
      exact ⟨rfl, Below.refl _ _⟩
  · have hb' : 1048576 < n1 + n2 := by omega
    clear h hb
    go_enter Try.func4, Try.ntmps4
    go_wp2_with (go_at_call 11; refine (bytes11_no _ _ _ _ _ _ _ _ hb').mono ?_; rintro e w' ⟨rfl, hw'⟩; subst w')
    go_ret
    exact ⟨rfl, Below.refl _ _⟩

set_option maxRecDepth 100000 in
set_option maxHeartbeats 1000000 in
theorem counts_some (b1 o1 c1 b2 o2 c2 n i : Nat) (S E : Nat → Int) (w : World) (hn : 8 * n ≤ 1048576) (hi : i < n)
    (hS : ∀ i, i < n → w.cell? ⟨b1, o1 + i, none⟩ = some (.int .i32 (S i))) (hE : ∀ i, i < n → w.cell? ⟨b2, o2 + i, none⟩ = some (.int .i32 (E i))) :
    Calls Try.prog 4 #[.slice (some ⟨b1, o1, none⟩) n c1, .slice (some ⟨b2, o2, none⟩) n c2, .int .i64 i] w fun e w' => e = .returned (.bool true) ∧ Below w.heap.size w w' := by
  have HS : Hid (∀ i, i < n → w.cell? ⟨b1, o1 + i, none⟩ = some (.int .i32 (S i))) := hS
  have HE : Hid (∀ i, i < n → w.cell? ⟨b2, o2 + i, none⟩ = some (.int .i32 (E i))) := hE
  clear hS hE
  have d1 : decide ((1048576 : Int) < 4 * (n : Int) + 4 * (n : Int)) = false := by simp; omega
  have d2 : decide ((i : Int) < 0) = false := by simp
  have d3 : decide (n ≤ i) = false := by simp; omega
  go_enter Try.func4, Try.ntmps4
  go_wp2_with (go_at_call 11; refine (bytes11_yes _ _ _ _ _ _ _ _ (by omega)).mono ?_; rintro e w' ⟨rfl, hw'⟩; subst w')
  go_loopw [7] (fun t wr => ∃ k : Nat, 1 ≤ k ∧ k ≤ n ∧ t = .int .i64 k ∧ (∃ m, wr = w.drewN m) ∧ ∀ j, j + 1 < k → E j ≤ E (j + 1)) (fun t _ => n - (intOf t).toNat)
  case atStart => exact ⟨1, by omega, by omega, rfl, ⟨0, rfl⟩, fun j hj => by omega⟩
  case round =>
    obtain ⟨k, hk1, hk2, rfl, ⟨m, rfl⟩, hm⟩ := hrel
    have HM : Hid (∀ j, j + 1 < k → E j ≤ E (j + 1)) := hm
    clear hm
    by_cases hkn : k < n
    · have g1 := HE.out k hkn
      have g2 := HE.out (k - 1) (by omega)
      have e1 : (k : Int) - 1 = ((k - 1 : Nat) : Int) := by omega
      have hki : (k : Int) < (n : Int) := by omega
      have hki' : ((k - 1 : Nat) : Int) < (n : Int) := by omega
      by_cases hlt : E k < E (k - 1)
      · go_wp2
        go_quiet (fail)
        go_wp2
        go_ret
        exact ⟨rfl, below_drewN (below_drewN (Below.refl _ _) _) _⟩
      · have HK : Hid (∀ j, j + 1 < k + 1 → E j ≤ E (j + 1)) := fun j hj => by
          by_cases e : j + 1 = k
          · have e' : j = k - 1 := by omega
            rw [e, e']; omega
          · exact HM.out j (by omega)
        go_wp2
        go_quiet (fail)
        go_wp2
        go_roundw
        case rel => exact ⟨k + 1, by omega, by omega, by go_num, ⟨_, rfl⟩, HK.out⟩
        case measure => simp [intOf]; omega
    · have hmono : ∀ j j', j ≤ j' → j' < n → E j ≤ E j' := by
        intro j j' hj
        induction hj with
        | refl => intro _; exact Int.le_refl _
        | step _ ih => intro h; exact Int.le_trans (ih (by omega)) (HM.out _ (by omega))
      have HMM : Hid (∀ j j', j ≤ j' → j' < i → E j ≤ E j') := fun j j' h1 h2 => hmono j j' h1 (by omega)
      clear hmono
      go_wp2_with fail
      refine (clone32_some ⟨b1, o1, none⟩ n c1 S (w.drewN m) (by omega) (fun j hj => by rw [Addr.add_lit]; exact HS.out j hj)).mono ?_
      rintro e w1 ⟨rfl, row1, sz1, bl1⟩
      have BL1 : Hid (Below w.heap.size w w1) := (below_drewN (Below.refl _ _) m).trans bl1
      have ROW1 : Hid (∀ j, j < n → w1.cell? ⟨w.heap.size, 0 + j, none⟩ = some (.int .i32 (S j))) := fun j hj => by rw [Nat.zero_add]; exact row1.cell hj
      clear row1 sz1 bl1
      go_wp2_with fail
      refine (clone32_some ⟨b2, o2, none⟩ n c2 E w1 (by omega) (fun j hj => by rw [Addr.add_lit]; exact cell_later BL1.out (HE.out j hj))).mono ?_
      rintro e w2 ⟨rfl, row2, sz2, bl2⟩
      have BL2 : Hid (Below w.heap.size w w2) := BL1.out.trans (bl2.mono BL1.out.size)
      have hS2 : ∀ j, j < n → w2.cell? ⟨w.heap.size, j, none⟩ = some (.int .i32 (S j)) := fun j hj => by have := ROW1.out j hj; rw [Nat.zero_add] at this; exact cell_later bl2 this
      have hE2 : ∀ j, j < n → w2.cell? ⟨w1.heap.size, j, none⟩ = some (.int .i32 (E j)) := fun j hj => row2.cell hj
      clear row2 sz2 bl2 ROW1
      go_wp2_with fail
      go_loop [9, 10] (fun s t => ∃ j : Nat, j ≤ i ∧ t = .int .i64 j ∧ s = .int .i64 (cntLe E (S i) j)) (fun _ t => i - (intOf t).toNat)
      case atStart => exact ⟨0, by omega, rfl, rfl⟩
      case round =>
        obtain ⟨j, hj, rfl, rfl⟩ := hrel
        have hcl := cntLe_le E (S i) j
        by_cases hji : j < i
        · have hjn : j < n := by omega
          by_cases hle : E j ≤ S i
          · have HC : Hid (cntLe E (S i) (j + 1) = cntLe E (S i) j + 1) := by show cntLe E (S i) j + (if E j ≤ S i then 1 else 0) = _; rw [if_pos hle]
            go_wp2
            go_round
            case rel => exact ⟨j + 1, by omega, by go_num, by rw [HC.out]; go_num⟩
            case measure => simp [intOf]; omega
          · have HC : Hid (cntLe E (S i) (j + 1) = cntLe E (S i) j) := by show cntLe E (S i) j + (if E j ≤ S i then 1 else 0) = _; rw [if_neg hle]; rfl
            go_wp2
            go_round
            case rel => exact ⟨j + 1, by omega, by go_num, by rw [HC.out]⟩
            case measure => simp [intOf]; omega
        · have hji' : j = i := by omega
          subst hji'
          go_wp2_with fail
          refine (zwithin_any w.heap.size 0 n w1.heap.size 0 n n j S E w2 (by omega) hi (by simpa using hS2) (by simpa using hE2) HMM.out).mono ?_
          rintro e w3 ⟨lo, rfl, r1, r2, r3, r4⟩
          have hc := cntLe_lo E (S j) lo j r2 r3 j (Nat.le_refl _)
          have hbq : ((lo : Int) == ((cntLe E (S j) j : Nat) : Int)) = true := by rw [hc]; simp; omega
          have BL3 : Hid (Below w.heap.size w w3) := BL2.out.trans (r4.mono BL2.out.size)
          clear hc r1 r2 r3 r4 hcl
          go_wp2
          go_ret
          exact ⟨rfl, BL3.out⟩

end Go.Proofs.Qxb6000404a
