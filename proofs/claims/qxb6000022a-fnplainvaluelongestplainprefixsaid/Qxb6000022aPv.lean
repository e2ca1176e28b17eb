import Derived.Test.Qxb6000022aBest
import Derived.Laws.BytesArg
namespace Go.Proofs.Qxb6000022a
open Go.RowKit

/-- What plainValue hands back: the longest plain prefix at i, or nil and -1. -/
def PvPost (y : Nat → Int) (N b o i c : Nat) (w : World) (e : Ending) (w' : World) : Prop :=
  Below w.heap.size w w' ∧ ((∃ l, Best y N l ∧ e = .returned (.tuple #[.slice (some ⟨b, o + i, none⟩) l (c - i), .int .i64 ((i : Int) + (l : Int))])) ∨ (NoTxt y N ∧ e = .returned (.tuple #[.slice none 0 0, .int .i64 (-1)])))

theorem PvPost.yes {y : Nat → Int} {N b o i c : Nat} {w w' : World} {e : Ending} (hb : Below w.heap.size w w') (l : Nat) (j : Int) (hB : Best y N l) (he : e = .returned (.tuple #[.slice (some ⟨b, o + i, none⟩) l (c - i), .int .i64 j])) (hj : j = (i : Int) + (l : Int)) : PvPost y N b o i c w e w' := by
  subst hj
  exact ⟨hb, .inl ⟨l, hB, he⟩⟩

theorem PvPost.yes2 {y : Nat → Int} {N b o i c : Nat} {w w' : World} {e : Ending} (hb : Below w.heap.size w w') (l l' : Nat) (j : Int) (hB : Best y N l) (he : e = .returned (.tuple #[.slice (some ⟨b, o + i, none⟩) l' (c - i), .int .i64 j])) (hl : l' = l) (hj : j = (i : Int) + (l : Int)) : PvPost y N b o i c w e w' := by
  subst hj
  subst hl
  exact ⟨hb, .inl ⟨l', hB, he⟩⟩

theorem PvPost.no {y : Nat → Int} {N b o i c : Nat} {w w' : World} {e : Ending} (hb : Below w.heap.size w w') (hB : NoTxt y N) (he : e = .returned (.tuple #[.slice none 0 0, .int .i64 (-1)])) : PvPost y N b o i c w e w' :=
  ⟨hb, .inr ⟨hB, he⟩⟩

set_option maxHeartbeats 1000000 in
theorem pv_end (b o n c : Nat) (z : Nat → Int) (w : World) :
    Calls Try.prog 22 #[.slice (some ⟨b, o, none⟩) n c, .int .i64 n] w (PvPost (fun k => z (n + k)) (n - n) b o n c w) := by
  have hN : Hid (NoTxt (fun k => z (n + k)) (n - n)) := fun l l1 l2 => by omega
  go_enter Try.func22, Try.ntmps22
  go_wp2
  go_ret2
  exact PvPost.no (Below.refl _ _) hN.out rfl

set_option maxHeartbeats 1000000 in
theorem pv_q (b o n c i : Nat) (z : Nat → Int) (w : World) (hn : n ≤ 4194304) (hnc : n ≤ c) (hi : i < n) (hb : ∀ i, i < n → w.cell? ⟨b, o + i, none⟩ = some (.int .u8 (z i))) (h34 : z i = 34) :
    Calls Try.prog 22 #[.slice (some ⟨b, o, none⟩) n c, .int .i64 i] w (PvPost (fun k => z (i + k)) (n - i) b o i c w) := by
  have H34 : Hid (z i = 34) := h34
  have q0 : (z i == 34) = true := by simp [h34]
  have hne : ((i : Int) == (n : Int)) = false := by simp; omega
  clear h34
  by_cases hF : ∃ q, Found z n i q
  · obtain ⟨q, hq⟩ := hF
    have HB : Hid (Best (fun k => z (i + k)) (n - i) (q + 1 - i)) := found_best hq
    have f1 := hq.lt
    have f2 := hq.qn
    go_enter Try.func22, Try.ntmps22
    go_wp2_with (go_at_call 10; refine (ps_yes b o n c i q z _ hn hnc hb hq).mono ?_; rintro e w' ⟨rfl, hw'⟩; subst w')
    go_ret2
    exact PvPost.yes (Below.refl _ _) (q + 1 - i) _ HB.out rfl (by omega)
  · have hF' : ∀ q, ¬ Found z n i q := fun q hq => hF ⟨q, hq⟩
    have HB : Hid (NoTxt (fun k => z (i + k)) (n - i)) := nofound_no H34.out hF'
    have HF : Hid (∀ q, ¬ Found z n i q) := hF'
    clear hF hF'
    go_enter Try.func22, Try.ntmps22
    go_wp2_with (go_at_call 10; refine (ps_no b o n c i z _ hn hnc (by omega) hb HF.out).mono ?_; rintro e w' ⟨rfl, hw'⟩; subst w')
    go_ret2
    exact PvPost.no (Below.refl _ _) HB.out rfl

set_option maxHeartbeats 1000000 in
theorem pv_z (b o n c i : Nat) (z : Nat → Int) (w : World) (hn : n ≤ 4194304) (hnc : n ≤ c) (hi : i < n) (hb : ∀ i, i < n → w.cell? ⟨b, o + i, none⟩ = some (.int .u8 (z i))) (h48 : z i = 48) :
    Calls Try.prog 22 #[.slice (some ⟨b, o, none⟩) n c, .int .i64 i] w (PvPost (fun k => z (i + k)) (n - i) b o i c w) := by
  have HB : Hid (Best (fun k => z (i + k)) (n - i) 1) := zero_best h48 hi
  have q0 : (z i == 34) = false := by simp [h48]
  have q1 : (z i == 48) = true := by simp [h48]
  have hne : ((i : Int) == (n : Int)) = false := by simp; omega
  clear h48
  go_enter Try.func22, Try.ntmps22
  go_wp2
  go_ret2
  exact PvPost.yes (Below.refl _ _) 1 _ HB.out rfl (by omega)

set_option maxHeartbeats 1000000 in
theorem pv_d (b o n c i : Nat) (z : Nat → Int) (w : World) (hn : n ≤ 4194304) (hnc : n ≤ c) (hi : i < n) (hb : ∀ i, i < n → w.cell? ⟨b, o + i, none⟩ = some (.int .u8 (z i))) (h49 : 49 ≤ z i) (h57 : z i ≤ 57) :
    Calls Try.prog 22 #[.slice (some ⟨b, o, none⟩) n c, .int .i64 i] w (PvPost (fun k => z (i + k)) (n - i) b o i c w) := by
  have q0 : (z i == 34) = false := by simp; omega
  have q1 : (z i == 48) = false := by simp; omega
  have hne : ((i : Int) == (n : Int)) = false := by simp; omega
  go_enter Try.func22, Try.ntmps22
  go_wp2
  go_loop [5] (fun t => ∃ k : Nat, i < k ∧ k ≤ n ∧ t = .int .i64 k ∧ ∀ j, i < j → j < k → digit (z j)) (fun t => n - (intOf t).toNat)
  case atStart => exact ⟨i + 1, by omega, by omega, by go_num, fun j h1 h2 => by omega⟩
  case round =>
    obtain ⟨k, hk1, hk2, rfl, hp⟩ := hrel
    have HP : Hid (∀ j, i < j → j < k → digit (z j)) := hp
    clear hp
    by_cases hkn : k < n
    · by_cases hd : digit (z k)
      · obtain ⟨d1, d2⟩ := hd
        go_wp2
        go_round
        case rel =>
          refine ⟨k + 1, by omega, by omega, by go_num, fun j h1 h2 => ?_⟩
          by_cases e : j = k
          · subst e; exact ⟨d1, d2⟩
          · exact HP.out j h1 (by omega)
        case measure => simp [intOf]; omega
      · have HB : Hid (Best (fun k => z (i + k)) (n - i) (k - i)) := digits_best h49 h57 hk1 hk2 HP.out (fun _ => hd)
        by_cases d1 : 48 ≤ z k
        · have d2 : ¬ z k ≤ 57 := fun d2 => hd ⟨d1, d2⟩
          clear hd
          go_wp2
          go_ret2
          exact PvPost.yes (Below.refl _ _) (k - i) _ HB.out rfl (by omega)
        · clear hd
          go_wp2
          go_ret2
          exact PvPost.yes (Below.refl _ _) (k - i) _ HB.out rfl (by omega)
    · have HB : Hid (Best (fun k => z (i + k)) (n - i) (k - i)) := digits_best h49 h57 hk1 hk2 HP.out (fun h => absurd h hkn)
      go_wp2
      go_ret2
      exact PvPost.yes (Below.refl _ _) (k - i) _ HB.out rfl (by omega)

theorem toList_nums (xs : List Int) : (strOfNums xs).toList = xs.map fun n => UInt8.ofNat n.toNat := by
  rw [← strOfNums_data]
  exact ByteArray.toList_eq _

theorem byte_eq {a : Int} {p : UInt8} (h0 : 0 ≤ a) (h1 : a ≤ 255) : UInt8.ofNat a.toNat = p ↔ a = (p.toNat : Int) := by
  rw [← UInt8.toNat_inj, UInt8.toNat_ofNat_of_lt' (by show a.toNat < 256; omega)]
  omega

theorem nums4 {a b c d : Int} {p q r t : UInt8} (ha : 0 ≤ a ∧ a ≤ 255) (hb : 0 ≤ b ∧ b ≤ 255) (hc : 0 ≤ c ∧ c ≤ 255) (hd : 0 ≤ d ∧ d ≤ 255) :
    ((strOfNums [a, b, c, d]).toList == [p, q, r, t]) = true ↔ a = (p.toNat : Int) ∧ b = (q.toNat : Int) ∧ c = (r.toNat : Int) ∧ d = (t.toNat : Int) := by
  rw [toList_nums]
  simp [byte_eq ha.1 ha.2, byte_eq hb.1 hb.2, byte_eq hc.1 hc.2, byte_eq hd.1 hd.2]

theorem nums5 {a b c d e : Int} {p q r t u : UInt8} (ha : 0 ≤ a ∧ a ≤ 255) (hb : 0 ≤ b ∧ b ≤ 255) (hc : 0 ≤ c ∧ c ≤ 255) (hd : 0 ≤ d ∧ d ≤ 255) (he : 0 ≤ e ∧ e ≤ 255) :
    ((strOfNums [a, b, c, d, e]).toList == [p, q, r, t, u]) = true ↔ a = (p.toNat : Int) ∧ b = (q.toNat : Int) ∧ c = (r.toNat : Int) ∧ d = (t.toNat : Int) ∧ e = (u.toNat : Int) := by
  rw [toList_nums]
  simp [byte_eq ha.1 ha.2, byte_eq hb.1 hb.2, byte_eq hc.1 hc.2, byte_eq hd.1 hd.2, byte_eq he.1 he.2]

/-- The block that the three words lie in. -/
abbrev wordsIn (w : World) : World := w.alloc (Obj.cells #[Value.string ⟨#[116, 114, 117, 101]⟩, Value.string ⟨#[102, 97, 108, 115, 101]⟩, Value.string ⟨#[110, 117, 108, 108]⟩] 9)

theorem conv4 (b o n c i : Nat) (z : Nat → Int) (w : World) (h4 : 4 ≤ n - i) (hb : ∀ i, i < n → w.cell? ⟨b, o + i, none⟩ = some (.int .u8 (z i))) (hz : ∀ i, i < n → 0 ≤ z i ∧ z i ≤ 255) :
    ∃ s : ByteArray, (convert 22 9 (.slice (some ⟨b, o + i, none⟩) 4 (c - i))).run Try.prog (wordsIn w) = .ok (.string s) (wordsIn w) ∧
      ((s.toList == [116, 114, 117, 101]) = true ↔ isTrue (fun k => z (i + k))) ∧ ((s.toList == [110, 117, 108, 108]) = true ↔ isNull (fun k => z (i + k))) := by
  have hcv := run_convert_bytes_arg (P := Try.prog) (wordsIn w) 22 5 Try.underlying22 Try.underlying5 b (o + i) 4 (c - i) [z i, z (i + 1), z (i + 2), z (i + 3)] rfl (fun j hj => by
      rw [Nat.add_assoc, cell_later ((Below.refl _ _).alloc (Nat.le_refl _) _) (hb (i + j) (by omega))]
      match j, hj with
      | 0, _ => rfl
      | 1, _ => rfl
      | 2, _ => rfl
      | 3, _ => rfl) 9 Try.underlying9
  exact ⟨_, hcv, nums4 (hz _ (by omega)) (hz _ (by omega)) (hz _ (by omega)) (hz _ (by omega)), nums4 (hz _ (by omega)) (hz _ (by omega)) (hz _ (by omega)) (hz _ (by omega))⟩

theorem conv5 (b o n c i : Nat) (z : Nat → Int) (w : World) (h5 : 5 ≤ n - i) (hb : ∀ i, i < n → w.cell? ⟨b, o + i, none⟩ = some (.int .u8 (z i))) (hz : ∀ i, i < n → 0 ≤ z i ∧ z i ≤ 255) :
    ∃ s : ByteArray, (convert 22 9 (.slice (some ⟨b, o + i, none⟩) 5 (c - i))).run Try.prog (wordsIn w) = .ok (.string s) (wordsIn w) ∧
      ((s.toList == [102, 97, 108, 115, 101]) = true ↔ isFalse (fun k => z (i + k))) := by
  have hcv := run_convert_bytes_arg (P := Try.prog) (wordsIn w) 22 5 Try.underlying22 Try.underlying5 b (o + i) 5 (c - i) [z i, z (i + 1), z (i + 2), z (i + 3), z (i + 4)] rfl (fun j hj => by
      rw [Nat.add_assoc, cell_later ((Below.refl _ _).alloc (Nat.le_refl _) _) (hb (i + j) (by omega))]
      match j, hj with
      | 0, _ => rfl
      | 1, _ => rfl
      | 2, _ => rfl
      | 3, _ => rfl
      | 4, _ => rfl) 9 Try.underlying9
  exact ⟨_, hcv, nums5 (hz _ (by omega)) (hz _ (by omega)) (hz _ (by omega)) (hz _ (by omega)) (hz _ (by omega))⟩

set_option maxHeartbeats 2000000 in
theorem pv_w (b o n c i : Nat) (z : Nat → Int) (w : World) (hn : n ≤ 4194304) (hnc : n ≤ c) (hi : i < n) (hb : ∀ i, i < n → w.cell? ⟨b, o + i, none⟩ = some (.int .u8 (z i))) (hz : ∀ i, i < n → 0 ≤ z i ∧ z i ≤ 255) (h34 : z i ≠ 34) (hd : ¬ digit (z i)) :
    Calls Try.prog 22 #[.slice (some ⟨b, o, none⟩) n c, .int .i64 i] w (PvPost (fun k => z (i + k)) (n - i) b o i c w) := by
  have q0 : (z i == 34) = false := by simp [h34]
  have q1 : (z i == 48) = false := by
    simp only [beq_eq_false_iff_ne]
    intro h
    exact hd ⟨by omega, by omega⟩
  have q2 : z i < 49 ∨ 57 < z i := by
    by_cases h : z i < 49
    · exact .inl h
    · refine .inr ?_
      by_cases h' : 57 < z i
      · exact h'
      · exact absurd ⟨by omega, by omega⟩ hd
  have hne : ((i : Int) == (n : Int)) = false := by simp; omega
  have BT : Hid (4 ≤ n - i → isTrue (fun k => z (i + k)) → Best (fun k => z (i + k)) (n - i) 4) := fun h h' => true_best h34 hd h h'
  have BF : Hid (5 ≤ n - i → isFalse (fun k => z (i + k)) → Best (fun k => z (i + k)) (n - i) 5) := fun h h' => false_best h34 hd h h'
  have BN : Hid (4 ≤ n - i → isNull (fun k => z (i + k)) → Best (fun k => z (i + k)) (n - i) 4) := fun h h' => null_best h34 hd h h'
  have NO : Hid ((4 ≤ n - i → ¬ isTrue (fun k => z (i + k))) → (5 ≤ n - i → ¬ isFalse (fun k => z (i + k))) → (4 ≤ n - i → ¬ isNull (fun k => z (i + k))) → NoTxt (fun k => z (i + k)) (n - i)) := fun a b c => word_no h34 hd a b c
  have hW : Below w.heap.size w (wordsIn w) := (Below.refl _ _).alloc (Nat.le_refl _) _
  have HW : Hid (Below w.heap.size w (wordsIn w)) := hW
  clear h34 hd hW
  by_cases h5 : 5 ≤ n - i
  · obtain ⟨s4, hcv4, t4, n4⟩ := conv4 b o n c i z w (by omega) hb hz
    obtain ⟨s5, hcv5, f5⟩ := conv5 b o n c i z w h5 hb hz
    have T4 : Hid ((s4.toList == [116, 114, 117, 101]) = true ↔ isTrue (fun k => z (i + k))) := t4
    have N4 : Hid ((s4.toList == [110, 117, 108, 108]) = true ↔ isNull (fun k => z (i + k))) := n4
    have F5 : Hid ((s5.toList == [102, 97, 108, 115, 101]) = true ↔ isFalse (fun k => z (i + k))) := f5
    clear t4 n4 f5
    rcases q2 with q2 | q2
    all_goals
      go_enter Try.func22, Try.ntmps22
      go_wp2
      refine wp_loop_rounds 4 ?_
      rw [rounds_succ]
      go_wp2
      · have ht : (s4.toList == [116, 114, 117, 101]) = true := by assumption
        go_ret2
        exact PvPost.yes2 HW.out 4 _ _ (BT.out (by omega) (T4.out.1 ht)) rfl (by omega) (by omega)
      have ht : (s4.toList == [116, 114, 117, 101]) = false := by assumption
      have NT : Hid (¬ isTrue (fun k => z (i + k))) := fun h => by rw [T4.out.2 h] at ht; cases ht
      rw [rounds_succ]
      go_wp2
      · have hf : (s5.toList == [102, 97, 108, 115, 101]) = true := by assumption
        go_ret2
        exact PvPost.yes2 HW.out 5 _ _ (BF.out (by omega) (F5.out.1 hf)) rfl (by omega) (by omega)
      have hf : (s5.toList == [102, 97, 108, 115, 101]) = false := by assumption
      have NF : Hid (¬ isFalse (fun k => z (i + k))) := fun h => by rw [F5.out.2 h] at hf; cases hf
      rw [rounds_succ]
      go_wp2
      · have hu : (s4.toList == [110, 117, 108, 108]) = true := by assumption
        go_ret2
        exact PvPost.yes2 HW.out 4 _ _ (BN.out (by omega) (N4.out.1 hu)) rfl (by omega) (by omega)
      have hu : (s4.toList == [110, 117, 108, 108]) = false := by assumption
      have NN : Hid (¬ isNull (fun k => z (i + k))) := fun h => by rw [N4.out.2 h] at hu; cases hu
      rw [rounds_succ]
      go_wp2
      go_ret2
      exact PvPost.no HW.out (NO.out (fun _ => NT.out) (fun _ => NF.out) (fun _ => NN.out)) rfl
  by_cases h4 : 4 ≤ n - i
  · obtain ⟨s4, hcv4, t4, n4⟩ := conv4 b o n c i z w h4 hb hz
    have T4 : Hid ((s4.toList == [116, 114, 117, 101]) = true ↔ isTrue (fun k => z (i + k))) := t4
    have N4 : Hid ((s4.toList == [110, 117, 108, 108]) = true ↔ isNull (fun k => z (i + k))) := n4
    have l5 : ¬ (5 : Int) ≤ (n : Int) - (i : Int) := by omega
    clear t4 n4
    rcases q2 with q2 | q2
    all_goals
      go_enter Try.func22, Try.ntmps22
      go_wp2
      refine wp_loop_rounds 4 ?_
      rw [rounds_succ]
      go_wp2
      · have ht : (s4.toList == [116, 114, 117, 101]) = true := by assumption
        go_ret2
        exact PvPost.yes2 HW.out 4 _ _ (BT.out (by omega) (T4.out.1 ht)) rfl (by omega) (by omega)
      have ht : (s4.toList == [116, 114, 117, 101]) = false := by assumption
      have NT : Hid (¬ isTrue (fun k => z (i + k))) := fun h => by rw [T4.out.2 h] at ht; cases ht
      rw [rounds_succ]
      go_wp2
      rw [rounds_succ]
      go_wp2
      · have hu : (s4.toList == [110, 117, 108, 108]) = true := by assumption
        go_ret2
        exact PvPost.yes2 HW.out 4 _ _ (BN.out (by omega) (N4.out.1 hu)) rfl (by omega) (by omega)
      have hu : (s4.toList == [110, 117, 108, 108]) = false := by assumption
      have NN : Hid (¬ isNull (fun k => z (i + k))) := fun h => by rw [N4.out.2 h] at hu; cases hu
      rw [rounds_succ]
      go_wp2
      go_ret2
      exact PvPost.no HW.out (NO.out (fun _ => NT.out) (fun h => absurd h h5) (fun _ => NN.out)) rfl
  · have l4 : ¬ (4 : Int) ≤ (n : Int) - (i : Int) := by omega
    have l5 : ¬ (5 : Int) ≤ (n : Int) - (i : Int) := by omega
    rcases q2 with q2 | q2
    all_goals
      go_enter Try.func22, Try.ntmps22
      go_wp2
      refine wp_loop_rounds 4 ?_
      rw [rounds_succ]
      go_wp2
      rw [rounds_succ]
      go_wp2
      rw [rounds_succ]
      go_wp2
      rw [rounds_succ]
      go_wp2
      go_ret2
      exact PvPost.no HW.out (NO.out (fun h => absurd h h4) (fun h => absurd h h5) (fun h => absurd h h4)) rfl

/-- plainValue, at every index. -/
theorem pv_any (b o n c i : Nat) (z : Nat → Int) (w : World) (hn : n ≤ 4194304) (hnc : n ≤ c) (hi : i ≤ n) (hb : ∀ i, i < n → w.cell? ⟨b, o + i, none⟩ = some (.int .u8 (z i))) (hz : ∀ i, i < n → 0 ≤ z i ∧ z i ≤ 255) :
    Calls Try.prog 22 #[.slice (some ⟨b, o, none⟩) n c, .int .i64 i] w (PvPost (fun k => z (i + k)) (n - i) b o i c w) := by
  by_cases e : i = n
  · subst e
    exact pv_end b o i c z w
  have hi' : i < n := by omega
  by_cases h34 : z i = 34
  · exact pv_q b o n c i z w hn hnc hi' hb h34
  by_cases hd : digit (z i)
  · by_cases h48 : z i = 48
    · exact pv_z b o n c i z w hn hnc hi' hb h48
    · exact pv_d b o n c i z w hn hnc hi' hb (by have := hd.1; omega) hd.2
  · exact pv_w b o n c i z w hn hnc hi' hb hz h34 hd

/-- ZZplainValue hands plainValue on. -/
theorem zpv_any (b o n c i : Nat) (z : Nat → Int) (w : World) (hn : n ≤ 4194304) (hnc : n ≤ c) (hi : i ≤ n) (hb : ∀ i, i < n → w.cell? ⟨b, o + i, none⟩ = some (.int .u8 (z i))) (hz : ∀ i, i < n → 0 ≤ z i ∧ z i ≤ 255) :
    Calls Try.prog 18 #[.slice (some ⟨b, o, none⟩) n c, .int .i64 i] w (PvPost (fun k => z (i + k)) (n - i) b o i c w) := by
  go_enter Try.func18, Try.ntmps18
  go_wp2_with fail
  refine (pv_any b o n c i z w hn hnc hi hb hz).mono ?_
  rintro e w1 ⟨hb1, ⟨l, hB, rfl⟩ | ⟨hB, rfl⟩⟩
  · have H : Hid (Below w.heap.size w w1 ∧ Best (fun k => z (i + k)) (n - i) l) := ⟨hb1, hB⟩
    clear hb1 hB
    go_wp2
    go_ret2
    exact PvPost.yes H.out.1 l _ H.out.2 rfl rfl
  · have H : Hid (Below w.heap.size w w1 ∧ NoTxt (fun k => z (i + k)) (n - i)) := ⟨hb1, hB⟩
    clear hb1 hB
    go_wp2
    go_ret2
    exact PvPost.no H.out.1 H.out.2 rfl

end Go.Proofs.Qxb6000022a
