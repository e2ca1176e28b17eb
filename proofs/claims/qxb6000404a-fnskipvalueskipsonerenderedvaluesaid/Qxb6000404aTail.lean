import Derived.OrdersHeld
import Derived.RegionTactic
import Derived.Deep.RegionHeld
namespace Go.Proofs.Qxb6000404a

/-! ### Loads taken first, where the region's LAST operation (a store that waits for all the others) writes one of the cells that they read.
  'X': the operations behind which S need not be shown anew: each of them waits, by an edge of its own, for whatever is taken first. -/
section
variable {P : Program} {ops : Array Oper} {Q : Exit → Act → World → Prop} {md : Region.Mode} {S : World → Prop} {X : Nat → Bool}

def wpAnyX (P : Program) (md : Region.Mode) (ops : Array Oper) (Q : Exit → Act → World → Prop) (S : World → Prop) (X : Nat → Bool) : Nat → Array Bool → Act → World → Prop
  | 0, listed, a, w => Region.ready md ops listed = [] ∧ Q .normal a w
  | fuel + 1, listed, a, w =>
    (Region.ready md ops listed = [] → Q .normal a w) ∧
    ∀ i ∈ Region.ready md ops listed, wpOp P ops Q i (fun a' w' => (X i = false → S w') ∧ wpAnyX P md ops Q S X fuel (listed.setIfInBounds i true) a' w') a w

theorem wpAny_of_X : ∀ (fuel : Nat) (listed : Array Bool) (a : Act) (w : World), wpAnyX P md ops Q S X fuel listed a w → wpAny P md ops Q fuel listed a w
  | 0, _, _, _, h => h
  | fuel + 1, _, _, _, h => ⟨h.1, fun i hi => wpOp_mono (fun a' w' h' => wpAny_of_X fuel _ a' w' h'.2) (h.2 i hi)⟩

/-- Of two operations that may both come up now neither waits for the other. -/
theorem no_edge {i j : Nat} {oj : Oper} {listed : Array Bool} (hi : i ∈ Region.ready md ops listed) (hoj : ops[j]? = some oj) (hj : j ∈ Region.ready md ops listed) :
    ∀ e ∈ oj.after, Region.binds md e = true → e.on ≠ i := by
  intro e he hb heq
  obtain ⟨_, o, ho, hall⟩ := mem_ready.1 hj
  obtain rfl : o = oj := by rw [hoj] at ho; exact (Option.some.inj ho).symm
  have h1 := hall e he hb
  have h0 := (mem_ready.1 hi).1
  rw [heq] at h1
  rcases Nat.lt_or_ge i listed.size with h' | h'
  · simp [h'] at h0 h1; rw [h0] at h1; cases h1
  · simp [Array.getElem?_eq_none h'] at h1

theorem wpAnyX_first {i : Nat} {oi : Oper} {v : Value} (hi : ops[i]? = some oi) (hsel : ∀ (j : Nat) (o : Oper) cs b, ops[j]? = some o → o.op ≠ .select cs b)
    (hQ : ∀ c a w, Q (.panic c) (a.put oi.dst v) w → Q (.panic c) a w)
    (hX : ∀ j oj, ops[j]? = some oj → X j = true → ∃ e ∈ oj.after, Region.binds md e = true ∧ e.on = i) (hXi : X i = false) :
    ∀ (fuel : Nat) (listed : Array Bool) (a : Act) (w : World),
      (∀ j oj, ops[j]? = some oj → j ≠ i → listed.getD j true = false → (∀ e ∈ oj.after, Region.binds md e = true → e.on ≠ i) → oi.apart ops oj = true) →
      i ∈ Region.ready md ops listed → YieldsIf P ops S oi v a → S w →
      wpAnyX P md ops Q S X fuel (listed.setIfInBounds i true) (a.put oi.dst v) w → wpAnyX P md ops Q S X (fuel + 1) listed a w
  | 0, listed, a, w, _, hr, hy, hS, H => by
    refine ⟨fun h => (by rw [h] at hr; cases hr), fun j hj => ?_⟩
    by_cases hji : j = i
    · subst hji
      exact hy.wpOp hi hS ⟨fun _ => hS, H⟩
    · have := ready_mono hj hji
      rw [H.1] at this
      cases this
  | fuel + 1, listed, a, w, hfree, hr, hy, hS, H => by
    refine ⟨fun h => (by rw [h] at hr; cases hr), fun j hj => ?_⟩
    by_cases hji : j = i
    · subst hji
      exact hy.wpOp hi hS ⟨fun _ => hS, H⟩
    · obtain ⟨hjun, oj, hoj, _⟩ := mem_ready.1 hj
      have hnot := no_edge hr hoj hj
      have hXj : X j = false := by
        cases hx : X j with
        | false => rfl
        | true =>
          obtain ⟨e, he, hb, heq⟩ := hX j oj hoj hx
          exact absurd heq (hnot e he hb)
      have h2 := wpOp_putIf hoj (hfree j oj hoj hji hjun hnot) (fun cs b => hsel i oi cs b hi) (fun cs b => hsel j oj cs b hoj) hQ hy (H.2 j (ready_mono hj hji))
      refine wpOp_mono (fun a' w' h3 => ?_) h2
      have hS' : S w' := h3.2.1 hXj
      refine ⟨fun _ => hS', wpAnyX_first hi hsel hQ hX hXi fuel (listed.setIfInBounds j true) a' w' ?_ (ready_mono hr (Ne.symm hji)) h3.1 hS' ?_⟩
      · intro k ok hk hki hun hno
        refine hfree k ok hk hki ?_ hno
        by_cases hjk : j = k
        · subst hjk; exact hjun
        · rw [getD_set_ne true hjk] at hun; exact hun
      · rw [Array.setIfInBounds_comm _ _ hji]
        exact h3.2.2

/-- Every exempted operation waits for number i. -/
def waitsB (md : Region.Mode) (ops : Array Oper) (X : Nat → Bool) (i : Nat) : Bool :=
  (List.range ops.size).all fun j => !X j || (match ops[j]? with | some oj => oj.after.toList.any fun e => Region.binds md e && e.on == i | none => true)

theorem waitsB_spec {i : Nat} (h : waitsB md ops X i = true) : ∀ j oj, ops[j]? = some oj → X j = true → ∃ e ∈ oj.after, Region.binds md e = true ∧ e.on = i := by
  intro j oj hoj hx
  have hlt : j < ops.size := (Array.getElem?_eq_some_iff.1 hoj).1
  have := List.all_eq_true.1 h j (by simpa using hlt)
  simp only [hx, Bool.not_true, Bool.false_or, hoj, List.any_eq_true, Bool.and_eq_true, beq_iff_eq] at this
  obtain ⟨e, he, hb, heq⟩ := this
  exact ⟨e, by simpa using he, hb, heq⟩

theorem wpAnyX_take {i : Nat} {oi : Oper} {v : Value} {fuel : Nat} {listed : Array Bool} {a : Act} {w : World} (hi : ops[i]? = some oi)
    (hs : Region.noSelect ops = true) (hf : Region.free md ops listed i = true) (hr : (Region.ready md ops listed).contains i = true) (hX : waitsB md ops X i = true) (hXi : X i = false)
    (hQ : ∀ c a w, Q (.panic c) (a.put oi.dst v) w → Q (.panic c) a w) (hS : S w) (hy : YieldsIf P ops S oi v a)
    (h : wpAnyX P md ops Q S X fuel (listed.setIfInBounds i true) (a.put oi.dst v) w) : wpAnyX P md ops Q S X (fuel + 1) listed a w :=
  wpAnyX_first hi (Region.noSelect_spec hs) hQ (waitsB_spec hX) hXi fuel listed a w (Region.free_spec hi hf) (by simpa using hr) hy hS h

/-- One operation alone may come up. -/
theorem wpAnyX_one {i : Nat} {o : Oper} {fuel : Nat} {listed : Array Bool} {a : Act} {w : World} (hr : Region.ready md ops listed = [i]) (ho : ops[i]? = some o)
    (h : ∀ K' : Act → World → Prop, Shut (∀ a w, (X i = false → S w) → wpAnyX P md ops Q S X fuel (listed.setIfInBounds i true) a w → K' a w) → if Region.wanted o (yielded ops a.tmps) = true then Oper.wp P o a w K' Q else False) :
    wpAnyX P md ops Q S X (fuel + 1) listed a w := by
  have h' := h _ (fun a w h1 h2 => And.intro h1 h2)
  refine ⟨(fun h0 => by rw [h0] at hr; cases hr), fun j hj => ?_⟩
  rw [hr] at hj
  obtain rfl := List.mem_singleton.1 hj
  unfold wpOp
  simp only [ho]
  split
  · rename_i hw
    rw [if_pos hw] at h'
    exact .inl h'
  · rename_i hw
    rw [if_neg hw] at h'
    exact h'.elim

theorem wpAnyX_done {listed : Array Bool} {a : Act} {w : World} (hr : Region.ready md ops listed = []) (h : Q .normal a w) :
    ∀ fuel, wpAnyX P md ops Q S X fuel listed a w
  | 0 => ⟨hr, h⟩
  | _ + 1 => ⟨fun _ => h, by rw [hr]; simp⟩

theorem wp_region_X {id : Nat} {a : Act} {w : World} (hm : P.follows .mixedOrders = true) (S : World → Prop) (X : Nat → Bool)
    (h : wpAnyX P .any ops Q S X ops.size (Array.replicate ops.size false) a w.drew) : (Code.region id ops true).wp P Q a w :=
  wp_region_any hm (wpAny_of_X _ _ _ _ h)

end
end Go.Proofs.Qxb6000404a
