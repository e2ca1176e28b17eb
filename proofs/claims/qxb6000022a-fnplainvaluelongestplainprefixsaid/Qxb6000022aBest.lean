import Derived.Test.Qxb6000022aIsText
namespace Go.Proofs.Qxb6000022a
open Go.RowKit

/-! ### Plain laws: the longest plain prefix -/

def Best (y : Nat → Int) (N l : Nat) : Prop := 1 ≤ l ∧ l ≤ N ∧ Txt y l ∧ ∀ l', l < l' → l' ≤ N → ¬ Txt y l'
def NoTxt (y : Nat → Int) (N : Nat) : Prop := ∀ l, 1 ≤ l → l ≤ N → ¬ Txt y l

theorem best_unique {y : Nat → Int} {N a b : Nat} (h : Best y N a) (k : Best y N b) : a = b := by
  obtain ⟨h1, h2, h3, h4⟩ := h
  obtain ⟨k1, k2, k3, k4⟩ := k
  rcases Nat.lt_trichotomy a b with hl | hl | hl
  · exact absurd k3 (h4 b hl k2)
  · exact hl
  · exact absurd h3 (k4 a hl h2)

theorem best_not_no {y : Nat → Int} {N a : Nat} (h : Best y N a) (k : NoTxt y N) : False := k a h.1 h.2.1 h.2.2.1

theorem found_best {z : Nat → Int} {n i q : Nat} (h : Found z n i q) : Best (fun k => z (i + k)) (n - i) (q + 1 - i) := by
  obtain ⟨h1, h2, h3, h4, h5⟩ := h
  have h0 : (fun k => z (i + k)) 0 = 34 := h3
  refine ⟨by omega, by omega, (txt_q h0).2 ⟨by omega, ?_, fun k k1 k2 => h5 (i + k) (by omega) (by omega)⟩, fun l' l1 l2 => ?_⟩
  · show z (i + (q + 1 - i - 1)) = 34
    rw [show i + (q + 1 - i - 1) = q by omega]
    exact h4
  · rw [txt_q h0]
    rintro ⟨_, _, hm⟩
    have := hm (q - i) (by omega) (by omega)
    have e : z (i + (q - i)) = 34 := by
      rw [show i + (q - i) = q by omega]
      exact h4
    rw [e] at this
    exact this.2.2.1 rfl

theorem nofound_no {z : Nat → Int} {n i : Nat} (h0 : z i = 34) (h : ∀ q, ¬ Found z n i q) : NoTxt (fun k => z (i + k)) (n - i) := by
  intro l l1 l2
  have h0' : (fun k => z (i + k)) 0 = 34 := h0
  rw [txt_q h0']
  rintro ⟨h2, h3, h4⟩
  refine h (i + (l - 1)) ⟨by omega, by omega, h0, h3, fun k k1 k2 => ?_⟩
  have := h4 (k - i) (by omega) (by omega)
  have e : z (i + (k - i)) = z k := by rw [show i + (k - i) = k by omega]
  rw [e] at this
  exact this

theorem zero_best {z : Nat → Int} {n i : Nat} (h0 : z i = 48) (hi : i < n) : Best (fun k => z (i + k)) (n - i) 1 := by
  have h0' : (fun k => z (i + k)) 0 = 48 := h0
  refine ⟨by omega, by omega, (txt_z h0').2 rfl, fun l' l1 _ => ?_⟩
  rw [txt_z h0']
  omega

theorem digits_best {z : Nat → Int} {n i k : Nat} (h1 : 49 ≤ z i) (h2 : z i ≤ 57) (hk : i < k) (hkn : k ≤ n) (hd : ∀ j, i < j → j < k → digit (z j)) (hs : k < n → ¬ digit (z k)) : Best (fun k => z (i + k)) (n - i) (k - i) := by
  have h1' : 49 ≤ (fun k => z (i + k)) 0 := h1
  have h2' : (fun k => z (i + k)) 0 ≤ 57 := h2
  refine ⟨by omega, by omega, (txt_d h1' h2').2 (fun j j1 j2 => hd (i + j) (by omega) (by omega)), fun l' l1 l2 => ?_⟩
  rw [txt_d h1' h2']
  intro h
  have := h (k - i) (by omega) (by omega)
  have e : z (i + (k - i)) = z k := by rw [show i + (k - i) = k by omega]
  rw [e] at this
  exact hs (by omega) this

theorem true_best {y : Nat → Int} {N : Nat} (h1 : y 0 ≠ 34) (h2 : ¬ digit (y 0)) (hN : 4 ≤ N) (h : isTrue y) : Best y N 4 := by
  refine ⟨by omega, hN, (txt_w h1 h2).2 (.inl ⟨rfl, h⟩), fun l' l1 _ => ?_⟩
  rw [txt_w h1 h2]
  rintro (⟨_, _⟩ | ⟨_, h', _⟩ | ⟨_, _⟩)
  · omega
  · have := h.1; omega
  · omega

theorem null_best {y : Nat → Int} {N : Nat} (h1 : y 0 ≠ 34) (h2 : ¬ digit (y 0)) (hN : 4 ≤ N) (h : isNull y) : Best y N 4 := by
  refine ⟨by omega, hN, (txt_w h1 h2).2 (.inr (.inr ⟨rfl, h⟩)), fun l' l1 _ => ?_⟩
  rw [txt_w h1 h2]
  rintro (⟨_, _⟩ | ⟨_, h', _⟩ | ⟨_, _⟩)
  · omega
  · have := h.1; omega
  · omega

theorem false_best {y : Nat → Int} {N : Nat} (h1 : y 0 ≠ 34) (h2 : ¬ digit (y 0)) (hN : 5 ≤ N) (h : isFalse y) : Best y N 5 := by
  refine ⟨by omega, hN, (txt_w h1 h2).2 (.inr (.inl ⟨rfl, h⟩)), fun l' l1 _ => ?_⟩
  rw [txt_w h1 h2]
  rintro (⟨_, _⟩ | ⟨_, h', _⟩ | ⟨_, _⟩) <;> omega

theorem word_no {y : Nat → Int} {N : Nat} (h1 : y 0 ≠ 34) (h2 : ¬ digit (y 0)) (ht : 4 ≤ N → ¬ isTrue y) (hf : 5 ≤ N → ¬ isFalse y) (hn : 4 ≤ N → ¬ isNull y) : NoTxt y N := by
  intro l _ l2
  rw [txt_w h1 h2]
  rintro (⟨rfl, h⟩ | ⟨rfl, h⟩ | ⟨rfl, h⟩)
  · exact ht l2 h
  · exact hf l2 h
  · exact hn l2 h

end Go.Proofs.Qxb6000022a
