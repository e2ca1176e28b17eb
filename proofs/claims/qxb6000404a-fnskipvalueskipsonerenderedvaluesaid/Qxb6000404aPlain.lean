/-! Plain laws for the two laws on skipValue: no Go in sight. -/
namespace Go.Proofs.Qxb6000404a

/-! ### What zzB1Render writes -/

def esc : List Int → List Int
  | [] => []
  | c :: s => (if c = 34 ∨ c = 92 then [92, c] else [c]) ++ esc s

/-- What one byte of the shape writes; 'stk': the closers of what is open, the innermost first. -/
def tok (inner str : List Int) (b : Int) (stk : List Int) : List Int :=
  if b % 8 = 0 then [123]
  else if b % 8 = 1 then [91]
  else if b % 8 = 2 then stk.take 1
  else if b % 8 = 3 then 34 :: (esc str ++ [34])
  else if b % 8 = 4 then (if stk = [] then [] else [44])
  else if b % 8 = 5 then [120]
  else if b % 8 = 6 then 123 :: (inner ++ [125])
  else [32]

def stkAfter (b : Int) (stk : List Int) : List Int :=
  if b % 8 = 0 then 125 :: stk
  else if b % 8 = 1 then 93 :: stk
  else if b % 8 = 2 then stk.tail
  else stk

def rend (inner str : List Int) : List Int → List Int → List Int
  | [], stk => stk
  | b :: sh, stk => tok inner str b stk ++ rend inner str sh (stkAfter b stk)

/-- The noted mappings, by the place of their brace and the place past their end. -/
def notes (inner str : List Int) : List Int → List Int → Nat → List (Nat × Nat)
  | [], _, _ => []
  | b :: sh, stk, pos => (if b % 8 = 6 then [(pos, pos + (inner.length + 2))] else []) ++ notes inner str sh (stkAfter b stk) (pos + (tok inner str b stk).length)

/-! ### What skipString and skipValue read -/

/-- From p the string's closing quote is found at q, in m rounds. -/
def StrR (t : Nat → Int) (L q : Nat) : Nat → Nat → Prop
  | 0, p => p = q ∧ p < L ∧ t p = 34
  | m + 1, p => p < L ∧ ((t p = 92 ∧ StrR t L q m (p + 2)) ∨ (t p ≠ 34 ∧ t p ≠ 92 ∧ StrR t L q m (p + 1)))

/-- From place p, depth d, next note j the value's end is found at pf, with jf the next note, in m rounds. -/
def Reach (t : Nat → Int) (L : Nat) (S E : Nat → Int) (N : Nat) (base : Int) (pf jf : Nat) : Nat → Nat → Nat → Nat → Prop
  | 0, p, d, j => p = pf ∧ d = 0 ∧ j = jf ∧ p < L ∧ (t p = 44 ∨ t p = 125 ∨ t p = 93)
  | m + 1, p, d, j => p < L ∧ (
      (t p = 34 ∧ ∃ k q, StrR t L q k (p + 1) ∧ Reach t L S E N base pf jf m (q + 1) d j) ∨
      (t p = 123 ∧ j < N ∧ S j = base + p ∧ ∃ q : Nat, E j = base + q ∧ p < q ∧ q ≤ L ∧ Reach t L S E N base pf jf m q d (j + 1)) ∨
      (t p = 123 ∧ (N ≤ j ∨ S j ≠ base + p) ∧ Reach t L S E N base pf jf m (p + 1) (d + 1) j) ∨
      (t p = 91 ∧ Reach t L S E N base pf jf m (p + 1) (d + 1) j) ∨
      ((t p = 125 ∨ t p = 93) ∧ 0 < d ∧ Reach t L S E N base pf jf m (p + 1) (d - 1) j) ∨
      (t p = 44 ∧ 0 < d ∧ Reach t L S E N base pf jf m (p + 1) d j) ∨
      (t p ≠ 34 ∧ t p ≠ 123 ∧ t p ≠ 91 ∧ t p ≠ 125 ∧ t p ≠ 93 ∧ t p ≠ 44 ∧ Reach t L S E N base pf jf m (p + 1) d j))

/-- The list l stands in t from pos on. -/
def Stands (t : Nat → Int) (pos : Nat) (l : List Int) : Prop := ∀ k (h : k < l.length), t (pos + k) = l[k]

theorem stands_cons {t : Nat → Int} {pos : Nat} {a : Int} {l : List Int} (h : Stands t pos (a :: l)) : t pos = a ∧ Stands t (pos + 1) l := by
  refine ⟨h 0 (by simp), fun k hk => ?_⟩
  have := h (k + 1) (by simp; omega)
  rw [show pos + 1 + k = pos + (k + 1) by omega]
  exact this

theorem stands_append {t : Nat → Int} {pos : Nat} {l l' : List Int} (h : Stands t pos (l ++ l')) : Stands t pos l ∧ Stands t (pos + l.length) l' := by
  refine ⟨fun k hk => ?_, fun k hk => ?_⟩
  · have := h k (by simp; omega)
    rw [List.getElem_append_left hk] at this
    exact this
  · have := h (l.length + k) (by simp; omega)
    rw [List.getElem_append_right (by omega)] at this
    rw [show pos + l.length + k = pos + (l.length + k) by omega]
    simpa using this

theorem strR_esc {t : Nat → Int} {L : Nat} : ∀ (s : List Int) (p : Nat), Stands t p (esc s ++ [34]) → p + (esc s).length < L → ∃ m, StrR t L (p + (esc s).length) m p
  | [], p, h, hL => ⟨0, by simp [esc], by simpa [esc] using hL, by simpa [esc] using (stands_cons (by simpa [esc] using h)).1⟩
  | c :: s, p, h, hL => by
    by_cases hc : c = 34 ∨ c = 92
    · have e : esc (c :: s) = 92 :: c :: esc s := by simp [esc, hc]
      rw [e] at h hL ⊢
      obtain ⟨h1, h2⟩ := stands_cons (by simpa using h)
      obtain ⟨h3, h4⟩ := stands_cons h2
      obtain ⟨m, hm⟩ := strR_esc (L := L) s (p + 1 + 1) h4 (by have : p + ((esc s).length + 1 + 1) < L := hL; omega)
      refine ⟨m + 1, by simp at hL; omega, .inl ⟨h1, ?_⟩⟩
      have e2 : p + (92 :: c :: esc s).length = p + 1 + 1 + (esc s).length := by simp; omega
      rw [e2]
      exact hm
    · have e : esc (c :: s) = c :: esc s := by simp [esc, hc]
      rw [e] at h hL ⊢
      obtain ⟨h1, h2⟩ := stands_cons (by simpa using h)
      obtain ⟨m, hm⟩ := strR_esc (L := L) s (p + 1) h2 (by have : p + ((esc s).length + 1) < L := hL; omega)
      refine ⟨m + 1, by simp at hL; omega, .inr ⟨by rw [h1]; exact fun e => hc (.inl e), by rw [h1]; exact fun e => hc (.inr e), ?_⟩⟩
      have e2 : p + (c :: esc s).length = p + 1 + (esc s).length := by simp; omega
      rw [e2]
      exact hm

theorem notes_pos (inner str : List Int) : ∀ (sh stk : List Int) (pos : Nat) (a : Nat × Nat), a ∈ notes inner str sh stk pos → pos ≤ a.1
  | [], _, _, a, h => by simp [notes] at h
  | b :: sh, stk, pos, a, h => by
    simp only [notes, List.mem_append] at h
    rcases h with h | h
    · split at h
      · simp at h; rw [h]; exact Nat.le_refl _
      · simp at h
    · have := notes_pos inner str sh _ _ a h
      omega

/-- The notes from index j on are these; whatever comes behind them begins at or past 'fin'. -/
structure NotesOk (S E : Nat → Int) (N : Nat) (base : Int) (j : Nat) (ns : List (Nat × Nat)) (fin : Nat) : Prop where
  here : ∀ k (h : k < ns.length), j + k < N ∧ S (j + k) = base + (ns[k].1 : Int) ∧ E (j + k) = base + (ns[k].2 : Int)
  past : ∀ k, j + ns.length ≤ k → k < N → base + (fin : Int) ≤ S k

theorem NotesOk.cons {S E : Nat → Int} {N : Nat} {base : Int} {j : Nat} {a : Nat × Nat} {ns : List (Nat × Nat)} {fin : Nat} (h : NotesOk S E N base j (a :: ns) fin) :
    (j < N ∧ S j = base + (a.1 : Int) ∧ E j = base + (a.2 : Int)) ∧ NotesOk S E N base (j + 1) ns fin := by
  refine ⟨h.here 0 (by simp), fun k hk => ?_, fun k h1 h2 => h.past k (by simp; omega) h2⟩
  have := h.here (k + 1) (by simp; omega)
  rw [show j + 1 + k = j + (k + 1) by omega]
  exact this

/-- The next note does not begin at p, where all that are left begin behind p. -/
theorem NotesOk.notHere {S E : Nat → Int} {N : Nat} {base : Int} {j : Nat} {ns : List (Nat × Nat)} {fin p : Nat} (h : NotesOk S E N base j ns fin) (h1 : ∀ a ∈ ns, p < a.1) (h2 : p < fin) : N ≤ j ∨ S j ≠ base + (p : Int) := by
  by_cases hj : j < N
  · right
    cases ns with
    | nil =>
      have := h.past j (by simp) hj
      omega
    | cons a ns =>
      have := h.cons.1.2.1
      have := h1 a (by simp)
      omega
  · exact .inl (by omega)

theorem rend_stk (inner str : List Int) : ∀ (sh stk : List Int), stk.length ≤ (rend inner str sh stk).length
  | [], _ => Nat.le_refl _
  | b :: sh, stk => by
    have ih := rend_stk inner str sh (stkAfter b stk)
    simp only [rend, List.length_append]
    have : stk.length ≤ (tok inner str b stk).length + (stkAfter b stk).length := by
      unfold tok stkAfter
      by_cases h0 : b % 8 = 0
      · simp [h0]; omega
      by_cases h1 : b % 8 = 1
      · simp [h1]; omega
      by_cases h2 : b % 8 = 2
      · simp [h2]; omega
      simp only [h0, h1, h2, if_false]
      omega
    omega

section
variable {t : Nat → Int} {L : Nat} {S E : Nat → Int} {N : Nat} {base : Int} {pf jf : Nat}

/-- What is left open is closed. -/
theorem reach_close : ∀ (stk : List Int) (pos : Nat), Stands t pos stk → (∀ c ∈ stk, c = 125 ∨ c = 93) → pos + stk.length = pf → pf < L → (t pf = 44 ∨ t pf = 125 ∨ t pf = 93) → ∃ m, Reach t L S E N base pf jf m pos stk.length jf
  | [], pos, _, _, h, hL, ht => by
    have e : pos = pf := by simpa using h
    subst e
    exact ⟨0, rfl, rfl, rfl, hL, ht⟩
  | c :: stk, pos, hs, hc, h, hL, ht => by
    obtain ⟨h1, h2⟩ := stands_cons hs
    obtain ⟨m, hm⟩ := reach_close stk (pos + 1) h2 (fun c' h' => hc c' (List.mem_cons_of_mem _ h')) (by simp at h; omega) hL ht
    refine ⟨m + 1, by simp at h; omega, .inr (.inr (.inr (.inr (.inl ⟨?_, by simp, ?_⟩))))⟩
    · rw [h1]; exact hc c (by simp)
    · simpa using hm

/-- THE LAW: over what zzB1Render writes the value's end is found. -/
theorem reach_rend (inner str : List Int) : ∀ (sh stk : List Int) (pos j : Nat), Stands t pos (rend inner str sh stk) → NotesOk S E N base j (notes inner str sh stk pos) (pos + (rend inner str sh stk).length) →
    (∀ c ∈ stk, c = 125 ∨ c = 93) → pos + (rend inner str sh stk).length = pf → j + (notes inner str sh stk pos).length = jf → pf < L → (t pf = 44 ∨ t pf = 125 ∨ t pf = 93) → ∃ m, Reach t L S E N base pf jf m pos stk.length j
  | [], stk, pos, j, hs, _, hc, hp, hj, hL, ht => by
    have e : j = jf := by simpa [notes] using hj
    subst e
    exact reach_close stk pos hs hc hp hL ht
  | b :: sh, stk, pos, j, hs, hn, hc, hp, hj, hL, ht => by
    simp only [rend, notes] at hs hn hp hj
    obtain ⟨hs1, hs2⟩ := stands_append hs
    simp only [List.length_append] at hn hp hj
    by_cases h0 : b % 8 = 0
    · have et : tok inner str b stk = [123] := by simp [tok, h0]
      have es : stkAfter b stk = 125 :: stk := by simp [stkAfter, h0]
      have en : ¬ b % 8 = 6 := by omega
      rw [et] at hs1 hs2 hn hp hj
      rw [es] at hs2 hn hp hj
      simp only [en, if_false, List.nil_append, List.length_cons, List.length_nil, Nat.zero_add] at hn hp hj hs2
      obtain ⟨m, hm⟩ := reach_rend inner str sh (125 :: stk) (pos + 1) j hs2 (by simpa [Nat.add_assoc] using hn) (fun c h => (List.mem_cons.1 h).elim .inl (hc c)) (by omega) (by simpa using hj) hL ht
      refine ⟨m + 1, by omega, .inr (.inr (.inl ⟨(stands_cons hs1).1, ?_, by simpa using hm⟩))⟩
      exact hn.notHere (fun a ha => by have := notes_pos inner str sh _ _ a ha; omega) (by omega)
    by_cases h1 : b % 8 = 1
    · have et : tok inner str b stk = [91] := by simp [tok, h1]
      have es : stkAfter b stk = 93 :: stk := by simp [stkAfter, h1]
      have en : ¬ b % 8 = 6 := by omega
      rw [et] at hs1 hs2 hn hp hj
      rw [es] at hs2 hn hp hj
      simp only [en, if_false, List.nil_append, List.length_cons, List.length_nil, Nat.zero_add] at hn hp hj hs2
      obtain ⟨m, hm⟩ := reach_rend inner str sh (93 :: stk) (pos + 1) j hs2 (by simpa [Nat.add_assoc] using hn) (fun c h => (List.mem_cons.1 h).elim .inr (hc c)) (by omega) (by simpa using hj) hL ht
      exact ⟨m + 1, by omega, .inr (.inr (.inr (.inl ⟨(stands_cons hs1).1, by simpa using hm⟩)))⟩
    by_cases h2 : b % 8 = 2
    · have es : stkAfter b stk = stk.tail := by simp [stkAfter, h2]
      have et : tok inner str b stk = stk.take 1 := by simp [tok, h2]
      have en : ¬ b % 8 = 6 := by omega
      rw [et] at hs1 hs2 hn hp hj
      rw [es] at hs2 hn hp hj
      simp only [en, if_false, List.nil_append, List.length_nil, Nat.zero_add] at hn hp hj
      cases stk with
      | nil =>
        obtain ⟨m, hm⟩ := reach_rend inner str sh [] pos j (by simpa using hs2) (by simpa using hn) hc (by simpa using hp) (by simpa using hj) hL ht
        exact ⟨m, hm⟩
      | cons c stk =>
        simp only [List.take_succ_cons, List.take_zero, List.tail_cons, List.length_cons, List.length_nil, Nat.zero_add] at hs1 hs2 hn hp hj
        obtain ⟨m, hm⟩ := reach_rend inner str sh stk (pos + 1) j hs2 (by simpa [Nat.add_assoc] using hn) (fun c' h => hc c' (List.mem_cons_of_mem _ h)) (by omega) (by simpa using hj) hL ht
        refine ⟨m + 1, by omega, .inr (.inr (.inr (.inr (.inl ⟨?_, by simp, by simpa using hm⟩))))⟩
        rw [(stands_cons hs1).1]
        exact hc c (by simp)
    have es : stkAfter b stk = stk := by simp [stkAfter, h0, h1, h2]
    rw [es] at hs2 hn hp hj
    by_cases h3 : b % 8 = 3
    · have et : tok inner str b stk = 34 :: (esc str ++ [34]) := by simp [tok, h3]
      have en : ¬ b % 8 = 6 := by omega
      rw [et] at hs1 hs2 hn hp hj
      simp only [en, if_false, List.nil_append, List.length_nil, Nat.zero_add] at hn hp hj
      simp only [List.length_cons, List.length_append, List.length_nil, Nat.zero_add] at hs2 hn hp hj
      obtain ⟨m, hm⟩ := reach_rend inner str sh stk (pos + ((esc str).length + 1 + 1)) j hs2 (by simpa [Nat.add_assoc] using hn) hc (by omega) (by simpa using hj) hL ht
      obtain ⟨s1, s2⟩ := stands_cons hs1
      obtain ⟨k, hk⟩ := strR_esc (L := L) str (pos + 1) s2 (by omega)
      refine ⟨m + 1, by omega, .inl ⟨s1, k, _, hk, ?_⟩⟩
      rw [show pos + 1 + (esc str).length + 1 = pos + ((esc str).length + 1 + 1) by omega]
      exact hm
    by_cases h4 : b % 8 = 4
    · have en : ¬ b % 8 = 6 := by omega
      simp only [en, if_false, List.nil_append, List.length_nil, Nat.zero_add] at hn hp hj
      by_cases he : stk = []
      · have et : tok inner str b stk = [] := by simp [tok, h4, he]
        rw [et] at hs1 hs2 hn hp hj
        exact reach_rend inner str sh stk pos j (by simpa using hs2) (by simpa using hn) hc (by simpa using hp) (by simpa using hj) hL ht
      · have et : tok inner str b stk = [44] := by simp [tok, h4, he]
        rw [et] at hs1 hs2 hn hp hj
        simp only [List.length_cons, List.length_nil, Nat.zero_add] at hs2 hn hp hj
        obtain ⟨m, hm⟩ := reach_rend inner str sh stk (pos + 1) j hs2 (by simpa [Nat.add_assoc] using hn) hc (by omega) (by simpa using hj) hL ht
        have hd : 0 < stk.length := by
          cases stk with
          | nil => exact absurd rfl he
          | cons _ _ => simp
        exact ⟨m + 1, by omega, .inr (.inr (.inr (.inr (.inr (.inl ⟨(stands_cons hs1).1, hd, hm⟩)))))⟩
    by_cases h6 : b % 8 = 6
    · have et : tok inner str b stk = 123 :: (inner ++ [125]) := by simp [tok, h6]
      rw [et] at hs1 hs2 hn hp hj
      simp only [h6, if_true, List.length_cons, List.length_append, List.length_nil, Nat.zero_add, List.cons_append, List.nil_append] at hs2 hn hp hj
      obtain ⟨⟨n1, n2, n3⟩, n4⟩ := hn.cons
      obtain ⟨m, hm⟩ := reach_rend inner str sh stk (pos + (inner.length + 1 + 1)) (j + 1) hs2 (by simpa [Nat.add_assoc] using n4) hc (by omega) (by omega) hL ht
      refine ⟨m + 1, by omega, .inr (.inl ⟨(stands_cons hs1).1, n1, n2, pos + (inner.length + 2), n3, by omega, by omega, hm⟩)⟩
    · have en : ¬ b % 8 = 6 := h6
      obtain ⟨x, et, hx⟩ : ∃ x, tok inner str b stk = [x] ∧ (x = 120 ∨ x = 32) := by
        by_cases h5 : b % 8 = 5
        · exact ⟨120, by simp [tok, h5], .inl rfl⟩
        · exact ⟨32, by simp [tok, h0, h1, h2, h3, h4, h5, h6], .inr rfl⟩
      rw [et] at hs1 hs2 hn hp hj
      simp only [en, if_false, List.nil_append, List.length_cons, List.length_nil, Nat.zero_add] at hs2 hn hp hj
      obtain ⟨m, hm⟩ := reach_rend inner str sh stk (pos + 1) j hs2 (by simpa [Nat.add_assoc] using hn) hc (by omega) (by simpa using hj) hL ht
      have tx := (stands_cons hs1).1
      refine ⟨m + 1, by omega, .inr (.inr (.inr (.inr (.inr (.inr ⟨?_, ?_, ?_, ?_, ?_, ?_, hm⟩)))))⟩ <;> (rw [tx]; omega)
end

end Go.Proofs.Qxb6000404a
