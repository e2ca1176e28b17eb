import Derived.Test.Qxb6000404aFour
import Derived.Test.Qxb6000404aPlain
namespace Go.Proofs.Qxb6000404a
open Go.RowKit

/-- How many of the bytes leave d by eight. -/
def cn (d : Int) : List Int → Nat
  | [] => 0
  | b :: l => (if b % 8 = d then 1 else 0) + cn d l

theorem cn_le (d : Int) : ∀ l, cn d l ≤ l.length
  | [] => Nat.le_refl _
  | b :: l => by
    have := cn_le d l
    simp only [cn, List.length_cons]
    split <;> omega

theorem cn_append (d : Int) : ∀ l l', cn d (l ++ l') = cn d l + cn d l'
  | [], l' => by simp [cn]
  | b :: l, l' => by simp [cn, cn_append d l l']; omega

theorem esc_len : ∀ s : List Int, (esc s).length ≤ 2 * s.length
  | [] => by simp [esc]
  | c :: s => by
    have := esc_len s
    simp only [esc, List.length_append, List.length_cons]
    split <;> simp <;> omega

theorem rend_len (In St : List Int) : ∀ (sh stk : List Int), (rend In St sh stk).length ≤ 2 * sh.length + stk.length + cn 3 sh * (2 * St.length + 2) + cn 6 sh * (In.length + 2)
  | [], stk => by simp [rend, cn]
  | b :: sh, stk => by
    have ih := rend_len In St sh (stkAfter b stk)
    have he := esc_len St
    simp only [rend, List.length_append, List.length_cons]
    have e3 : cn 3 (b :: sh) * (2 * St.length + 2) = (if b % 8 = 3 then (2 * St.length + 2) else 0) + cn 3 sh * (2 * St.length + 2) := by
      simp only [cn]; split <;> simp [Nat.add_mul]
    have e6 : cn 6 (b :: sh) * (In.length + 2) = (if b % 8 = 6 then (In.length + 2) else 0) + cn 6 sh * (In.length + 2) := by
      simp only [cn]; split <;> simp [Nat.add_mul]
    rw [e3, e6]
    have hT : (tok In St b stk).length + (stkAfter b stk).length ≤ 2 + stk.length + (if b % 8 = 3 then (2 * St.length + 2) else 0) + (if b % 8 = 6 then (In.length + 2) else 0) := by
      unfold tok stkAfter
      by_cases q0 : b % 8 = 0
      · simp [q0]; omega
      by_cases q1 : b % 8 = 1
      · simp [q1]; omega
      by_cases q2 : b % 8 = 2
      · simp [q2]; omega
      by_cases q3 : b % 8 = 3
      · simp [q3]; omega
      by_cases q4 : b % 8 = 4
      · simp [q4]; split <;> simp <;> omega
      by_cases q5 : b % 8 = 5
      · simp [q5]
      by_cases q6 : b % 8 = 6
      · simp [q6]; omega
      simp [q0, q1, q2, q3, q4, q5, q6]
    generalize cn 3 sh * (2 * St.length + 2) = u at *
    generalize cn 6 sh * (In.length + 2) = v at *
    omega

theorem notes_len (In St : List Int) : ∀ (sh stk : List Int) (pos : Nat), (notes In St sh stk pos).length = cn 6 sh
  | [], _, _ => rfl
  | b :: sh, stk, pos => by
    simp only [notes, cn, List.length_append, notes_len In St sh]
    split <;> simp

/-- The bound that zzB1UnfoldFits says yes to. -/
structure Fits (Sh : List Int) (n2 n3 : Nat) : Prop where
  f3 : cn 3 Sh * (2 * n3 + 2) ≤ 2097152
  f6 : cn 6 Sh * (n2 + 2) ≤ 2097152

/-- zzB1UnfoldFits's answer. -/
structure FitsSays (Sh : List Int) (n2 n3 : Nat) (e : Ending) : Prop where
  says : e = .returned (.bool false) ∨ (e = .returned (.bool true) ∧ Fits Sh n2 n3)

theorem mul_of_div {a n : Nat} (h : ¬ (2097152 / (a : Int) < (n : Int))) : a * n ≤ 2097152 := by
  have h1 : 2097152 / (a : Int) = ((2097152 / a : Nat) : Int) := rfl
  rw [h1] at h
  have h2 : n ≤ 2097152 / a := by omega
  have := Nat.mul_le_of_le_div _ _ _ h2
  rw [Nat.mul_comm]
  exact this

set_option maxRecDepth 100000 in
set_option maxHeartbeats 1000000 in
/-- zzB1UnfoldFits. -/
theorem fits_any (w : World) (A1 A2 A3 : Option Addr) (c1 c2 c3 n1 n2 n3 : Nat) (Sh : List Int) (e1 : Sh.length = n1) (h1 : n1 ≤ 1048576) (h2 : n2 ≤ 1048576) (h3 : n3 ≤ 1048576)
    (hc : ∀ i, i < n1 → ∃ b o, A1 = some ⟨b, o, none⟩ ∧ w.cell? ⟨b, o + i, none⟩ = some (.int .u8 (Sh.getD i 0))) (hby : ∀ x ∈ Sh, 0 ≤ x ∧ x ≤ 255) :
    Calls Try.prog 16 #[.slice A1 n1 c1, .slice A2 n2 c2, .slice A3 n3 c3] w fun e w' => FitsSays Sh n2 n3 e ∧ w' = w := by
  have HC : Hid (∀ i, i < n1 → ∃ b o, A1 = some ⟨b, o, none⟩ ∧ w.cell? ⟨b, o + i, none⟩ = some (.int .u8 (Sh.getD i 0))) := hc
  have HB : Hid (∀ x ∈ Sh, 0 ≤ x ∧ x ≤ 255) := hby
  have HL : Hid (Sh.length = n1) := e1
  clear hc hby e1
  go_enter Try.func16, Try.ntmps16
  go_wp2_with fail
  go_loopw [7, 8, 9] (fun u7 u8 u9 wr => ∃ k a b : Nat, k ≤ n1 ∧ u9 = .int .i64 k ∧ u7 = .int .i64 a ∧ u8 = .int .i64 b ∧ a ≤ k ∧ b ≤ k ∧ a + cn 3 (Sh.drop k) = cn 3 Sh ∧ b + cn 6 (Sh.drop k) = cn 6 Sh ∧ wr = w) (fun _ _ u9 _ => n1 - (intOf u9).toNat)
  case atStart => exact ⟨0, 0, 0, Nat.zero_le _, rfl, rfl, rfl, Nat.le_refl _, Nat.le_refl _, by simp, by simp, rfl⟩
  case round =>
    obtain ⟨k, a, b, hk, rfl, rfl, rfl, hak, hbk, ha, hb, hw⟩ := hrel
    subst wr
    by_cases hkn : k < n1
    · obtain ⟨bb, oo, hA, hcell⟩ := HC.out k hkn
      subst hA
      have hlt : k < Sh.length := by rw [HL.out]; exact hkn
      have ed : Sh.drop k = Sh[k] :: Sh.drop (k + 1) := List.drop_eq_getElem_cons hlt
      have eg : Sh.getD k 0 = Sh[k] := by simp [List.getD, hlt]
      have hx := HB.out _ (List.getElem_mem hlt)
      rw [eg] at hcell
      rw [ed] at ha hb
      obtain ⟨x, hxe⟩ : ∃ x, x = Sh[k] := ⟨_, rfl⟩
      rw [← hxe] at hcell ha hb hx
      clear hxe ed eg
      obtain ⟨hx0, hx1⟩ := hx
      simp only [cn] at ha hb
      have hki : (k : Int) < (n1 : Int) := by omega
      by_cases q3 : x % 8 = 3
      · have y3 : (x % 8 == 3) = true := by simp [q3]
        rw [if_pos q3] at ha
        rw [if_neg (by omega)] at hb
        have R : Hid (a + 1 + cn 3 (Sh.drop (k + 1)) = cn 3 Sh ∧ b + cn 6 (Sh.drop (k + 1)) = cn 6 Sh) := ⟨by omega, by omega⟩
        clear q3 ha hb
        go_wp2
        go_roundw
        case rel => exact ⟨k + 1, a + 1, b, by omega, by go_num, by go_num, rfl, by omega, by omega, R.out.1, R.out.2, trivial⟩
        case measure => simp [intOf]; omega
      by_cases q6 : x % 8 = 6
      · have y3 : (x % 8 == 3) = false := by simp; omega
        have y6 : (x % 8 == 6) = true := by simp [q6]
        rw [if_neg (by omega)] at ha
        rw [if_pos q6] at hb
        have R : Hid (a + cn 3 (Sh.drop (k + 1)) = cn 3 Sh ∧ b + 1 + cn 6 (Sh.drop (k + 1)) = cn 6 Sh) := ⟨by omega, by omega⟩
        clear q3 q6 ha hb
        go_wp2
        go_roundw
        case rel => exact ⟨k + 1, a, b + 1, by omega, by go_num, rfl, by go_num, by omega, by omega, R.out.1, R.out.2, trivial⟩
        case measure => simp [intOf]; omega
      · have y3 : (x % 8 == 3) = false := by simp; omega
        have y6 : (x % 8 == 6) = false := by simp; omega
        rw [if_neg (by omega)] at ha
        rw [if_neg (by omega)] at hb
        have R : Hid (a + cn 3 (Sh.drop (k + 1)) = cn 3 Sh ∧ b + cn 6 (Sh.drop (k + 1)) = cn 6 Sh) := ⟨by omega, by omega⟩
        clear q3 q6 ha hb
        go_wp2
        go_roundw
        case rel => exact ⟨k + 1, a, b, by omega, by go_num, rfl, rfl, by omega, by omega, R.out.1, R.out.2, trivial⟩
        case measure => simp [intOf]; omega
    · have e0 : Sh.drop k = [] := by rw [List.drop_eq_nil_iff]; have := HL.out; omega
      rw [e0] at ha hb
      have R : Hid (cn 3 Sh = a ∧ cn 6 Sh = b) := ⟨by simpa [cn] using ha.symm, by simpa [cn] using hb.symm⟩
      have hki : ¬ (k : Int) < (n1 : Int) := by omega
      clear ha hb e0
      by_cases g3 : 0 < a ∧ 2097152 / (a : Int) < 2 * (n3 : Int) + 2
      · obtain ⟨g3, g3'⟩ := g3
        go_wp2
        go_ret
        exact ⟨⟨.inl rfl⟩, rfl⟩
      · have F3 : Hid (a * (2 * n3 + 2) ≤ 2097152) := by
          show _ ≤ _
          by_cases ha0 : a = 0
          · subst ha0; simp
          · exact mul_of_div (by intro h; exact g3 ⟨by omega, by simpa using h⟩)
        by_cases g6 : 0 < b ∧ 2097152 / (b : Int) < (n2 : Int) + 2
        · obtain ⟨g6, g6'⟩ := g6
          by_cases ha0 : a = 0
          · subst ha0
            go_wp2
            go_ret
            exact ⟨⟨.inl rfl⟩, rfl⟩
          · have ha1 : 0 < a := by omega
            have g3' : ¬ 2097152 / (a : Int) < 2 * (n3 : Int) + 2 := fun h => g3 ⟨ha1, h⟩
            clear g3 ha0
            go_wp2
            go_ret
            exact ⟨⟨.inl rfl⟩, rfl⟩
        · have F6 : Hid (b * (n2 + 2) ≤ 2097152) := by
            show _ ≤ _
            by_cases hb0 : b = 0
            · subst hb0; simp
            · exact mul_of_div (by intro h; exact g6 ⟨by omega, by simpa using h⟩)
          have FF : Hid (Fits Sh n2 n3) := ⟨by rw [R.out.1]; exact F3.out, by rw [R.out.2]; exact F6.out⟩
          by_cases ha0 : a = 0
          · subst ha0
            by_cases hb0 : b = 0
            · subst hb0
              clear g3 g6
              go_wp2
              go_ret
              exact ⟨⟨.inr ⟨rfl, FF.out⟩⟩, rfl⟩
            · have hb1 : 0 < b := by omega
              have g6' : ¬ 2097152 / (b : Int) < (n2 : Int) + 2 := fun h => g6 ⟨hb1, h⟩
              clear g6 hb0 g3
              go_wp2
              go_ret
              exact ⟨⟨.inr ⟨rfl, FF.out⟩⟩, rfl⟩
          · have ha1 : 0 < a := by omega
            have g3' : ¬ 2097152 / (a : Int) < 2 * (n3 : Int) + 2 := fun h => g3 ⟨ha1, h⟩
            clear g3 ha0
            by_cases hb0 : b = 0
            · subst hb0
              clear g6
              go_wp2
              go_ret
              exact ⟨⟨.inr ⟨rfl, FF.out⟩⟩, rfl⟩
            · have hb1 : 0 < b := by omega
              have g6' : ¬ 2097152 / (b : Int) < (n2 : Int) + 2 := fun h => g6 ⟨hb1, h⟩
              clear g6 hb0
              go_wp2
              go_ret
              exact ⟨⟨.inr ⟨rfl, FF.out⟩⟩, rfl⟩

end Go.Proofs.Qxb6000404a
