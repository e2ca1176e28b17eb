import Derived.Test.Qxb6000404aFits
/-! Plain laws for the two laws on skipValue: the whole text, the whole rows of notes. -/
namespace Go.Proofs.Qxb6000404a

theorem stands_mid (l1 l2 l3 : List Int) : Stands (fun i => (l1 ++ l2 ++ l3).getD i 0) l1.length l2 := by
  intro k hk
  show (l1 ++ l2 ++ l3).getD (l1.length + k) 0 = l2[k]
  have h1 : l1.length + k < (l1 ++ l2).length := by simp; omega
  rw [List.getD, List.getElem?_append_left h1, List.getElem?_append_right (by omega)]
  simp [hk]

theorem notes_bound (In St : List Int) : ∀ (sh stk : List Int) (pos : Nat), ∀ a ∈ notes In St sh stk pos, pos ≤ a.1 ∧ a.2 ≤ pos + (rend In St sh stk).length ∧ a.1 ≤ a.2
  | [], _, _ => by simp [notes]
  | b :: sh, stk, pos => by
    intro a ha
    simp only [notes, List.mem_append] at ha
    simp only [rend, List.length_append]
    rcases ha with ha | ha
    · by_cases q : b % 8 = 6
      · rw [if_pos q] at ha
        simp at ha
        subst ha
        have e : (tok In St b stk).length = In.length + 2 := by simp [tok, q]
        rw [e]
        exact ⟨Nat.le_refl _, by simp only []; omega, by simp only []; omega⟩
      · rw [if_neg q] at ha
        cases ha
    · have := notes_bound In St sh _ _ a ha
      omega

section
variable {In St Sh Z0 tail text ns es : List Int} {base y : Int} {x : Nat}

theorem getD_left {l l' : List Int} {k : Nat} (h : k < l.length) : (l ++ l').getD k 0 = l[k] := by
  rw [List.getD, List.getElem?_append_left h]; simp [h]

theorem getD_right {l l' : List Int} {k : Nat} (h : l.length ≤ k) : (l ++ l').getD k 0 = l'.getD (k - l.length) 0 := by
  rw [List.getD, List.getElem?_append_right h]; rfl

theorem reach6 (hy : y = 44 ∨ y = 125 ∨ y = 93) (htext : text = Z0 ++ rend In St Sh [] ++ y :: tail)
    (hns : ns = (notes In St Sh [] Z0.length).map (fun a => base + (a.1 : Int)) ++ (List.range x).map (fun i : Nat => base + (text.length : Int) + 2 * (i : Int)))
    (hes : es = (notes In St Sh [] Z0.length).map (fun a => base + (a.2 : Int)) ++ (List.range x).map (fun i : Nat => base + (text.length : Int) + 2 * (i : Int) + 1)) :
    ∃ m, Reach (fun i => text.getD i 0) text.length (fun i => ns.getD i 0) (fun i => es.getD i 0) ns.length base (Z0.length + (rend In St Sh []).length) (notes In St Sh [] Z0.length).length m Z0.length 0 0 := by
  have hlen : text.length = Z0.length + (rend In St Sh []).length + 1 + tail.length := by rw [htext]; simp; omega
  have hnl : ns.length = (notes In St Sh [] Z0.length).length + x := by rw [hns]; simp
  refine reach_rend In St Sh [] Z0.length 0 ?_ ⟨?_, ?_⟩ (by simp) rfl (by simp) (by omega) ?_
  · rw [htext]; exact stands_mid _ _ _
  · intro k hk
    have h1 : k < ((notes In St Sh [] Z0.length).map (fun a => base + (a.1 : Int))).length := by simpa using hk
    have h2 : k < ((notes In St Sh [] Z0.length).map (fun a => base + (a.2 : Int))).length := by simpa using hk
    refine ⟨by omega, ?_, ?_⟩
    · show ns.getD (0 + k) 0 = _
      rw [Nat.zero_add, hns, getD_left h1]; simp
    · show es.getD (0 + k) 0 = _
      rw [Nat.zero_add, hes, getD_left h2]; simp
  · intro k h1 h2
    show _ ≤ ns.getD k 0
    have h3 : ((notes In St Sh [] Z0.length).map (fun a => base + (a.1 : Int))).length ≤ k := by simpa using h1
    have h4 : k - (notes In St Sh [] Z0.length).length < x := by omega
    rw [hns, getD_right h3]
    simp only [List.length_map, List.getD]
    simp only [List.getElem?_map, List.getElem?_range h4, Option.map_some, Option.getD_some]
    omega
  · have e : text.getD (Z0.length + (rend In St Sh []).length) 0 = y := by
      rw [htext, show Z0.length + (rend In St Sh []).length = (Z0 ++ rend In St Sh []).length by simp, getD_right (Nat.le_refl _)]
      simp
    show text.getD (Z0.length + (rend In St Sh []).length) 0 = 44 ∨ text.getD (Z0.length + (rend In St Sh []).length) 0 = 125 ∨ text.getD (Z0.length + (rend In St Sh []).length) 0 = 93
    rw [e]
    exact hy

/-- The notes lie in i32's reach. -/
theorem small6 (hb0 : 0 ≤ base) (hb1 : base ≤ 1048576) (hx : x ≤ 4096) (hl : text.length ≤ 67108864) (htext : text = Z0 ++ rend In St Sh [] ++ y :: tail)
    (hns : ns = (notes In St Sh [] Z0.length).map (fun a => base + (a.1 : Int)) ++ (List.range x).map (fun i : Nat => base + (text.length : Int) + 2 * (i : Int))) :
    ∀ j, j < ns.length → 0 ≤ ns.getD j 0 ∧ ns.getD j 0 ≤ 2147483647 := by
  intro j hj
  have hlen : text.length = Z0.length + (rend In St Sh []).length + 1 + tail.length := by rw [htext]; simp; omega
  have hm : ns.getD j 0 ∈ ns := by simp [List.getD, hj]
  generalize ns.getD j 0 = v at hm
  rw [hns, List.mem_append] at hm
  rcases hm with hm | hm
  · obtain ⟨a, ha, rfl⟩ := List.mem_map.mp hm
    have := notes_bound In St Sh [] Z0.length a ha
    omega
  · obtain ⟨a, ha, rfl⟩ := List.mem_map.mp hm
    have := List.mem_range.mp ha
    omega
end

/-! ### The list of law 7 -/

/-- The pieces between the bytes 255; cur: the piece that is open. -/
def pcs : List Int → List Int → List (List Int)
  | [], cur => [cur]
  | b :: r, cur => if b = 255 then cur :: pcs r [] else pcs r (cur ++ [b])

def lst (In St : List Int) : List (List Int) → List Int
  | [] => []
  | p :: ps => rend In St p [] ++ (if ps = [] then 93 else 44) :: lst In St ps

def lnotes (In St : List Int) : List (List Int) → Nat → List (Nat × Nat)
  | [], _ => []
  | p :: ps, pos => notes In St p [] pos ++ lnotes In St ps (pos + (rend In St p []).length + 1)

def vends (In St : List Int) : List (List Int) → Nat → List Int
  | [], _ => []
  | p :: ps, pos => ((pos + (rend In St p []).length : Nat) : Int) :: vends In St ps (pos + (rend In St p []).length + 1)

theorem pcs_ne (r cur : List Int) : pcs r cur ≠ [] := by
  induction r generalizing cur with
  | nil => simp [pcs]
  | cons b r ih =>
    simp only [pcs]
    split
    · simp
    · exact ih _

theorem lnotes_len (In St : List Int) : ∀ (r cur : List Int) (pos : Nat), (lnotes In St (pcs r cur) pos).length = cn 6 cur + cn 6 r
  | [], cur, pos => by simp [pcs, lnotes, notes_len, cn]
  | b :: r, cur, pos => by
    simp only [pcs]
    by_cases q : b = 255
    · rw [if_pos q]
      simp only [lnotes, List.length_append, notes_len, lnotes_len In St r]
      subst q
      simp [cn]
    · rw [if_neg q, lnotes_len In St r, cn_append]
      simp [cn]; omega

theorem lst_len (In St : List Int) : ∀ (r cur : List Int), (lst In St (pcs r cur)).length ≤ 2 * r.length + 2 * cur.length + 1 + (cn 3 cur + cn 3 r) * (2 * St.length + 2) + (cn 6 cur + cn 6 r) * (In.length + 2)
  | [], cur => by
    have := rend_len In St cur []
    simp only [pcs, lst, List.length_append, List.length_cons, List.length_nil, cn, Nat.add_zero] at *
    omega
  | b :: r, cur => by
    simp only [pcs]
    by_cases q : b = 255
    · rw [if_pos q]
      have h1 := rend_len In St cur []
      have h2 := lst_len In St r []
      subst q
      simp only [lst, List.length_append, List.length_cons, List.length_nil, cn, Nat.zero_add, Nat.add_mul] at *
      simp at *
      omega
    · rw [if_neg q]
      have h2 := lst_len In St r (cur ++ [b])
      simp only [cn_append, List.length_append, List.length_cons, List.length_nil] at *
      simp only [cn, Nat.add_zero, Nat.zero_add] at *
      rw [Nat.add_assoc (cn 3 cur), Nat.add_assoc (cn 6 cur)] at h2
      omega

theorem vends_len (In St : List Int) : ∀ (r cur : List Int) (pos : Nat), (vends In St (pcs r cur) pos).length ≤ r.length + 1
  | [], cur, pos => by simp [pcs, vends]
  | b :: r, cur, pos => by
    simp only [pcs]
    split
    · simp only [vends, List.length_cons]
      have := vends_len In St r [] (pos + (rend In St cur []).length + 1)
      omega
    · have := vends_len In St r (cur ++ [b]) pos
      simp only [List.length_cons]
      omega

theorem lnotes_bound (In St : List Int) : ∀ (P : List (List Int)) (pos : Nat), ∀ a ∈ lnotes In St P pos, pos ≤ a.1 ∧ a.2 ≤ pos + (lst In St P).length ∧ a.1 ≤ a.2
  | [], _ => by simp [lnotes]
  | p :: ps, pos => by
    intro a ha
    simp only [lnotes, List.mem_append] at ha
    simp only [lst, List.length_append, List.length_cons]
    rcases ha with ha | ha
    · have := notes_bound In St p [] pos a ha
      omega
    · have := lnotes_bound In St ps _ a ha
      omega

/-- Where loop 3 stands: the pieces Q are still to be walked, from place p and note j on. -/
structure Inv7 (In St : List Int) (t : Nat → Int) (L : Nat) (S E : Nat → Int) (N : Nat) (base : Int) (Q : List (List Int)) (p j : Nat) : Prop where
  st : Stands t p (lst In St Q)
  nt : ∀ k (h : k < (lnotes In St Q p).length), S (j + k) = base + ((lnotes In St Q p)[k].1 : Int) ∧ E (j + k) = base + ((lnotes In St Q p)[k].2 : Int)
  cnt : j + (lnotes In St Q p).length = N
  len : p + (lst In St Q).length = L

theorem Inv7.step {In St : List Int} {t : Nat → Int} {L : Nat} {S E : Nat → Int} {N : Nat} {base : Int} {q : List Int} {Q : List (List Int)} {p j : Nat} (h : Inv7 In St t L S E N base (q :: Q) p j) :
    (∃ m, Reach t L S E N base (p + (rend In St q []).length) (j + (notes In St q [] p).length) m p 0 j) ∧ Inv7 In St t L S E N base Q (p + (rend In St q []).length + 1) (j + (notes In St q [] p).length) := by
  have hst := h.st
  have hnt := h.nt
  have hcnt := h.cnt
  have hlen := h.len
  simp only [lst, lnotes, List.length_append, List.length_cons] at hst hnt hcnt hlen
  obtain ⟨s1, s2⟩ := stands_append hst
  obtain ⟨s3, s4⟩ := stands_cons s2
  refine ⟨reach_rend In St q [] p j s1 ⟨fun k hk => ?_, fun k h1 h2 => ?_⟩ (by simp) rfl rfl (by omega) ?_, ⟨s4, fun k hk => ?_, by omega, by omega⟩⟩
  · have := hnt k (by omega)
    rw [List.getElem_append_left hk] at this
    exact ⟨by omega, this.1, this.2⟩
  · obtain ⟨i, rfl⟩ : ∃ i, k = j + ((notes In St q [] p).length + i) := ⟨k - j - (notes In St q [] p).length, by omega⟩
    have := (hnt ((notes In St q [] p).length + i) (by omega)).1
    rw [List.getElem_append_right (by omega)] at this
    have hm := (lnotes_bound In St Q _ _ (List.getElem_mem (l := lnotes In St Q (p + (rend In St q []).length + 1)) (n := (notes In St q [] p).length + i - (notes In St q [] p).length) (by omega))).1
    rw [this]
    omega
  · rw [s3]
    split
    · exact .inr (.inr rfl)
    · exact .inl rfl
  · have := hnt ((notes In St q [] p).length + k) (by omega)
    rw [List.getElem_append_right (by omega)] at this
    simp only [Nat.add_sub_cancel_left] at this
    rw [show j + (notes In St q [] p).length + k = j + ((notes In St q [] p).length + k) by omega]
    exact this

theorem inv7_start {In St total ns es : List Int} {base : Int} {P : List (List Int)} (ht : total = lst In St P) (hn : ns = (lnotes In St P 0).map (fun a => base + (a.1 : Int))) (he : es = (lnotes In St P 0).map (fun a => base + (a.2 : Int))) :
    Inv7 In St (fun i => total.getD i 0) total.length (fun i => ns.getD i 0) (fun i => es.getD i 0) ns.length base P 0 0 := by
  refine ⟨fun k hk => ?_, fun k hk => ⟨?_, ?_⟩, ?_, ?_⟩
  · show total.getD (0 + k) 0 = _
    rw [ht]; simp [List.getD, hk]
  · show ns.getD (0 + k) 0 = _
    rw [hn]; simp [List.getD, hk]
  · show es.getD (0 + k) 0 = _
    rw [he]; simp [List.getD, hk]
  · rw [hn]; simp
  · rw [ht]; simp

theorem small7 {In St ns : List Int} {base : Int} {P : List (List Int)} (hb0 : 0 ≤ base) (hb1 : base ≤ 1048576) (hl : (lst In St P).length ≤ 67108864) (hn : ns = (lnotes In St P 0).map (fun a => base + (a.1 : Int))) :
    ∀ j, j < ns.length → 0 ≤ ns.getD j 0 ∧ ns.getD j 0 ≤ 2147483647 := by
  intro j hj
  have hm : ns.getD j 0 ∈ ns := by simp [List.getD, hj]
  generalize ns.getD j 0 = v at hm
  rw [hn] at hm
  obtain ⟨a, ha, rfl⟩ := List.mem_map.mp hm
  have := lnotes_bound In St P 0 a ha
  omega

end Go.Proofs.Qxb6000404a
