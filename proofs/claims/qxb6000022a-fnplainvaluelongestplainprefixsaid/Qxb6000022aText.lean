import Derived.Test.Qxb6000022aRound
namespace Go.Proofs.Qxb6000022a
open Go.RowKit

def digit (c : Int) : Prop := 48 ≤ c ∧ c ≤ 57

theorem isDigit_yes (c : Int) (w : World) (h : digit c) :
    Calls Try.prog 20 #[.int .u8 c] w fun e w' => e = .returned (.bool true) ∧ w' = w := by
  obtain ⟨h1, h2⟩ := h
  go_enter Try.func20, Try.ntmps20
  go_wp2
  go_ret
  exact ⟨rfl, rfl⟩

theorem isDigit_no (c : Int) (w : World) (h : ¬ digit c) :
    Calls Try.prog 20 #[.int .u8 c] w fun e w' => e = .returned (.bool false) ∧ w' = w := by
  by_cases h1 : 48 ≤ c
  · have h2 : ¬ c ≤ 57 := fun h2 => h ⟨h1, h2⟩
    clear h
    go_enter Try.func20, Try.ntmps20
    go_wp2
    go_ret
    exact ⟨rfl, rfl⟩
  · clear h
    go_enter Try.func20, Try.ntmps20
    go_wp2
    go_ret
    exact ⟨rfl, rfl⟩

set_option maxHeartbeats 400000 in
/-- zzHasWordAt at 0, the slice as long as the word. -/
theorem hasWord_any (b o n c : Nat) (z : Nat → Int) (s : ByteArray) (w : World) (hn : n ≤ 4194304) (hs : s.size = n) (hb : ∀ i, i < n → w.cell? ⟨b, o + i, none⟩ = some (.int .u8 (z i))) :
    Calls Try.prog 21 #[.slice (some ⟨b, o, none⟩) n c, .int .i64 0, .string s] w fun e w' =>
      ∃ r : Bool, e = .returned (.bool r) ∧ (∃ m, w' = w.drewN m) ∧ (r = true → ∀ k (h : k < s.size), z k = (s[k].toNat : Int)) ∧ (r = false → ∃ k, ∃ h : k < s.size, z k ≠ (s[k].toNat : Int)) := by
  have HS : Hid (s.size = n) := hs
  have h1 : ¬ (n : Int) < (s.size : Int) := by omega
  clear hs
  go_enter Try.func21, Try.ntmps21
  go_wp2
  go_loopw [7] (fun t wr => ∃ k : Nat, k ≤ s.size ∧ t = .int .i64 k ∧ (∃ m, wr = w.drewN m) ∧ ∀ j (h : j < s.size), j < k → z j = (s[j].toNat : Int)) (fun t _ => s.size - (intOf t).toNat)
  case atStart => exact ⟨0, Nat.zero_le _, rfl, ⟨0, rfl⟩, fun j _ h => by omega⟩
  case round =>
    obtain ⟨k, hk, rfl, ⟨m, rfl⟩, hall⟩ := hrel
    have HA : Hid (∀ j (h : j < s.size), j < k → z j = (s[j].toNat : Int)) := hall
    clear hall
    by_cases hkn : k < s.size
    · have g1 := hb k (by have := HS.out; omega)
      have hki : (k : Int) < (n : Int) := by have := HS.out; omega
      have hki' : (k : Int) < (s.size : Int) := by omega
      clear hb
      by_cases hz : z k = (s[k].toNat : Int)
      · have hz' : (z k != (s[k].toNat : Int)) = false := by simp [hz]
        have HZ : Hid (z k = (s[k].toNat : Int)) := hz
        clear hz
        go_wp2
        go_quiet (fail)
        go_wp2
        go_roundw
        case rel =>
          refine ⟨k + 1, by omega, by go_num, ⟨_, rfl⟩, fun j hj hlt => ?_⟩
          by_cases e : j = k
          · subst e; exact HZ.out
          · exact HA.out j hj (by omega)
        case measure => simp [intOf]; omega
      · have hz' : (z k != (s[k].toNat : Int)) = true := by simp [hz]
        have HZ : Hid (z k ≠ (s[k].toNat : Int)) := hz
        clear hz
        go_wp2
        go_quiet (fail)
        go_wp2
        go_ret
        exact ⟨false, rfl, ⟨_, World.drewN_drewN _ _ _⟩, (fun h => by cases h), fun _ => ⟨k, hkn, HZ.out⟩⟩
    · go_wp2
      go_ret
      exact ⟨true, rfl, ⟨_, rfl⟩, fun _ j hj => HA.out j hj (by omega), (fun h => by cases h)⟩

/-! ### The plain value texts, said plainly -/

def isTrue (z : Nat → Int) : Prop := z 0 = 116 ∧ z 1 = 114 ∧ z 2 = 117 ∧ z 3 = 101
def isFalse (z : Nat → Int) : Prop := z 0 = 102 ∧ z 1 = 97 ∧ z 2 = 108 ∧ z 3 = 115 ∧ z 4 = 101
def isNull (z : Nat → Int) : Prop := z 0 = 110 ∧ z 1 = 117 ∧ z 2 = 108 ∧ z 3 = 108

/-- The first l bytes are, whole, a plain value. -/
def Txt (z : Nat → Int) (l : Nat) : Prop :=
  (z 0 = 34 ∧ 2 ≤ l ∧ z (l - 1) = 34 ∧ ∀ k, 1 ≤ k → k < l - 1 → plain (z k)) ∨
  (z 0 = 48 ∧ l = 1) ∨
  (49 ≤ z 0 ∧ z 0 ≤ 57 ∧ ∀ k, 1 ≤ k → k < l → digit (z k)) ∨
  (l = 4 ∧ isTrue z) ∨ (l = 5 ∧ isFalse z) ∨ (l = 4 ∧ isNull z)

theorem txt_q {z : Nat → Int} {l : Nat} (h : z 0 = 34) : Txt z l ↔ (2 ≤ l ∧ z (l - 1) = 34 ∧ ∀ k, 1 ≤ k → k < l - 1 → plain (z k)) := by
  constructor
  · rintro (⟨_, h⟩ | ⟨h1, _⟩ | ⟨h1, _⟩ | ⟨_, h1, _⟩ | ⟨_, h1, _⟩ | ⟨_, h1, _⟩)
    · exact h
    all_goals omega
  · intro h'
    exact .inl ⟨h, h'⟩

theorem txt_z {z : Nat → Int} {l : Nat} (h : z 0 = 48) : Txt z l ↔ l = 1 := by
  constructor
  · rintro (⟨h1, _⟩ | ⟨_, h⟩ | ⟨h1, _⟩ | ⟨_, h1, _⟩ | ⟨_, h1, _⟩ | ⟨_, h1, _⟩)
    · omega
    · exact h
    all_goals omega
  · intro h'
    exact .inr (.inl ⟨h, h'⟩)

theorem txt_d {z : Nat → Int} {l : Nat} (h1 : 49 ≤ z 0) (h2 : z 0 ≤ 57) : Txt z l ↔ ∀ k, 1 ≤ k → k < l → digit (z k) := by
  constructor
  · rintro (⟨h1, _⟩ | ⟨h1, _⟩ | ⟨_, _, h⟩ | ⟨_, h1, _⟩ | ⟨_, h1, _⟩ | ⟨_, h1, _⟩)
    · omega
    · omega
    · exact h
    all_goals omega
  · intro h'
    exact .inr (.inr (.inl ⟨h1, h2, h'⟩))

theorem txt_w {z : Nat → Int} {l : Nat} (h1 : z 0 ≠ 34) (h2 : ¬ digit (z 0)) : Txt z l ↔ (l = 4 ∧ isTrue z) ∨ (l = 5 ∧ isFalse z) ∨ (l = 4 ∧ isNull z) := by
  constructor
  · rintro (⟨h, _⟩ | ⟨h, _⟩ | ⟨h, h', _⟩ | h)
    · exact absurd h h1
    · exact absurd (show digit (z 0) from ⟨by omega, by omega⟩) h2
    · exact absurd (show digit (z 0) from ⟨by omega, by omega⟩) h2
    · exact h
  · intro h
    exact .inr (.inr (.inr h))

theorem word_true {z : Nat → Int} : isTrue z ↔ ∀ k (h : k < (⟨#[116, 114, 117, 101]⟩ : ByteArray).size), z k = (((⟨#[116, 114, 117, 101]⟩ : ByteArray)[k]).toNat : Int) := by
  constructor
  · rintro ⟨a, b, c, d⟩ k hk
    match k, hk with
    | 0, _ => exact a
    | 1, _ => exact b
    | 2, _ => exact c
    | 3, _ => exact d
    | k + 4, h => exact absurd h (by simp [ByteArray.size])
  · intro h
    exact ⟨h 0 (by decide), h 1 (by decide), h 2 (by decide), h 3 (by decide)⟩

theorem word_false {z : Nat → Int} : isFalse z ↔ ∀ k (h : k < (⟨#[102, 97, 108, 115, 101]⟩ : ByteArray).size), z k = (((⟨#[102, 97, 108, 115, 101]⟩ : ByteArray)[k]).toNat : Int) := by
  constructor
  · rintro ⟨a, b, c, d, e⟩ k hk
    match k, hk with
    | 0, _ => exact a
    | 1, _ => exact b
    | 2, _ => exact c
    | 3, _ => exact d
    | 4, _ => exact e
    | k + 5, h => exact absurd h (by simp [ByteArray.size])
  · intro h
    exact ⟨h 0 (by decide), h 1 (by decide), h 2 (by decide), h 3 (by decide), h 4 (by decide)⟩

theorem word_null {z : Nat → Int} : isNull z ↔ ∀ k (h : k < (⟨#[110, 117, 108, 108]⟩ : ByteArray).size), z k = (((⟨#[110, 117, 108, 108]⟩ : ByteArray)[k]).toNat : Int) := by
  constructor
  · rintro ⟨a, b, c, d⟩ k hk
    match k, hk with
    | 0, _ => exact a
    | 1, _ => exact b
    | 2, _ => exact c
    | 3, _ => exact d
    | k + 4, h => exact absurd h (by simp [ByteArray.size])
  · intro h
    exact ⟨h 0 (by decide), h 1 (by decide), h 2 (by decide), h 3 (by decide)⟩

end Go.Proofs.Qxb6000022a
