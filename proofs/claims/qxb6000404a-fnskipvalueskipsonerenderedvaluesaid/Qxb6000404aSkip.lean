import Derived.Test.Qxb6000404aWithin
import Derived.Test.Qxb6000404aPlain
import Derived.Test.Qxb6000404aTail
namespace Go.Proofs.Qxb6000404a
open Go.RowKit
attribute [local go_sem ↓] Go.wp_at_zero Go.wp_at_succ

theorem strR_le {t : Nat → Int} {L q : Nat} : ∀ (m p : Nat), StrR t L q m p → p ≤ q
  | 0, p, h => by have := h.1; omega
  | m + 1, p, h => by
    rcases h.2 with ⟨_, h⟩ | ⟨_, _, h⟩
    · have := strR_le m _ h; omega
    · have := strR_le m _ h; omega

theorem reach_le {t : Nat → Int} {L : Nat} {S E : Nat → Int} {N : Nat} {base : Int} {pf jf : Nat} : ∀ (m p d j : Nat), Reach t L S E N base pf jf m p d j → p ≤ pf
  | 0, p, d, j, h => by have := h.1; omega
  | m + 1, p, d, j, h => by
    rcases h.2 with ⟨_, k, q, hk, h⟩ | ⟨_, _, _, q, _, hq, _, h⟩ | ⟨_, _, h⟩ | ⟨_, h⟩ | ⟨_, _, h⟩ | ⟨_, _, h⟩ | ⟨_, _, _, _, _, _, h⟩
    · have := reach_le m _ _ _ h; have := strR_le _ _ hk; omega
    · have := reach_le m _ _ _ h; omega
    all_goals (have := reach_le m _ _ _ h; omega)

theorem reach_depth {t : Nat → Int} {L : Nat} {S E : Nat → Int} {N : Nat} {base : Int} {pf jf : Nat} : ∀ (m p d j : Nat), Reach t L S E N base pf jf m p d j → p + d ≤ pf
  | 0, p, d, j, h => by have := h.1; have := h.2.1; omega
  | m + 1, p, d, j, h => by
    rcases h.2 with ⟨_, k, q, hk, h⟩ | ⟨_, _, _, q, _, hq, _, h⟩ | ⟨_, _, h⟩ | ⟨_, h⟩ | ⟨_, _, h⟩ | ⟨_, _, h⟩ | ⟨_, _, _, _, _, _, h⟩
    · have := reach_depth m _ _ _ h; have := strR_le _ _ hk; omega
    · have := reach_depth m _ _ _ h; omega
    all_goals (have := reach_depth m _ _ _ h; omega)

theorem reach_lt {t : Nat → Int} {L : Nat} {S E : Nat → Int} {N : Nat} {base : Int} {pf jf m p d j : Nat} (h : Reach t L S E N base pf jf m p d j) : p < L := by
  cases m with
  | zero => exact h.2.2.2.1
  | succ m => exact h.1

theorem reach_pf {t : Nat → Int} {L : Nat} {S E : Nat → Int} {N : Nat} {base : Int} {pf jf : Nat} : ∀ (m p d j : Nat), Reach t L S E N base pf jf m p d j → pf < L
  | 0, p, d, j, h => by have := h.1; have := h.2.2.2.1; omega
  | m + 1, p, d, j, h => by
    rcases h.2 with ⟨_, k, q, hk, h⟩ | ⟨_, _, _, q, _, hq, _, h⟩ | ⟨_, _, h⟩ | ⟨_, h⟩ | ⟨_, _, h⟩ | ⟨_, _, h⟩ | ⟨_, _, _, _, _, _, h⟩
    all_goals exact reach_pf m _ _ _ h

theorem wrap_in (x : Int) (h0 : -9223372036854775808 ≤ x) (h1 : x ≤ 9223372036854775807) : IntKind.i64.wrap x = x := by
  rw [IntKind.wrap_i64]
  omega

set_option maxHeartbeats 400000 in
/-- skipString: past the closing quote. -/
theorem skipString_any (b o L c p q k : Nat) (t : Nat → Int) (w : World) (hL : L ≤ 67108864) (hb : ∀ i, i < L → w.cell? ⟨b, o + i, none⟩ = some (.int .u8 (t i))) (hs : StrR t L q k (p + 1)) :
    Calls Try.prog 28 #[.slice (some ⟨b, o, none⟩) L c, .int .i64 p] w fun e w' => e = .returned (.int .i64 (q + 1)) ∧ w' = w := by
  have HS : Hid (StrR t L q k (p + 1)) := hs
  have hpL : p + 1 < L := by
    cases k with
    | zero => exact hs.2.1
    | succ k => exact hs.1
  clear hs
  go_enter Try.func28, Try.ntmps28
  go_wp2
  go_loop [1] (fun s => ∃ r m : Nat, s = .int .i64 r ∧ StrR t L q m r) (fun s => q - (intOf s).toNat)
  case atStart => exact ⟨p + 1, k, by go_num, HS.out⟩
  case round =>
    obtain ⟨r, m, rfl, hm⟩ := hrel
    have hrq := strR_le _ _ hm
    cases m with
    | zero =>
      obtain ⟨rfl, hrL, h34⟩ := hm
      have q34 : (t r != 34) = false := by simp [h34]
      clear h34
      go_wp2
      go_ret
      exact ⟨rfl, rfl⟩
    | succ m =>
      obtain ⟨hrL, hm⟩ := hm
      rcases hm with ⟨h92, hm⟩ | ⟨h34, h92, hm⟩
      · have hrq2 := strR_le _ _ hm
        have q34 : (t r != 34) = true := by simp [h92]
        have q92 : (t r == 92) = true := by simp [h92]
        have HM : Hid (StrR t L q m (r + 2)) := hm
        clear h92 hm
        go_wp2
        go_round
        case rel => exact ⟨r + 2, m, by go_num, HM.out⟩
        case measure => simp [intOf]; omega
      · have hrq2 := strR_le _ _ hm
        have q34 : (t r != 34) = true := by simp [h34]
        have q92 : (t r == 92) = false := by simp [h92]
        have HM : Hid (StrR t L q m (r + 1)) := hm
        clear h34 h92 hm
        go_wp2
        go_round
        case rel => exact ⟨r + 1, m, by go_num, HM.out⟩
        case measure => simp [intOf]; omega

set_option maxRecDepth 100000 in
set_option maxHeartbeats 4000000 in
/-- skipValue: the value's end, and the kids past it. -/
theorem skipValue_any (Cb b o L c p0 N kb kc pf jf j0 m0 r0 : Nat) (base : Int) (ao : Option Addr) (cv : Value) (t S E : Nat → Int) (w : World) (hL : L ≤ 67108864) (hN : N ≤ 4194304) (hb0 : 0 ≤ base) (hb1 : base ≤ 1048576)
    (hcv : w.cell? ⟨Cb, 11, none⟩ = some cv) (hv : ∀ j, j < N → NoteV w cv j (S j) (E j)) (hk : ∀ j, j < N → w.cell? ⟨kb, j, none⟩ = some (.int .i32 j)) (ht : ∀ i, i < L → w.cell? ⟨b, o + i, none⟩ = some (.int .u8 (t i)))
    (hSb : ∀ j, j < N → 0 ≤ S j ∧ S j ≤ 2147483647) (hR : Reach t L S E N base pf jf m0 p0 0 j0) (hrk : r0 ≤ kc) (hrj : r0 + j0 = N) (hao : 0 < r0 → ao = some ⟨kb, j0, none⟩) :
    Calls Try.prog 25 #[.pointer (some ⟨Cb, 0, none⟩), .slice (some ⟨b, o, none⟩) L c, .int .i64 p0, .int .i64 base, .slice ao r0 kc] w fun e w' =>
      ∃ (ao' : Option Addr) (r kr : Nat), e = .returned (.tuple #[.int .i64 pf, .slice ao' r kr]) ∧ r ≤ kr ∧ r + jf = N ∧ (0 < r → ao' = some ⟨kb, jf, none⟩) ∧ Below w.heap.size w w' := by
  have fl0 := field0
  have fl1 := field1
  have hpfL := reach_pf _ _ _ _ hR
  have HCV : Hid (w.cell? ⟨Cb, 11, none⟩ = some cv) := hcv
  have HV : Hid (∀ j, j < N → NoteV w cv j (S j) (E j)) := hv
  have HK : Hid (∀ j, j < N → w.cell? ⟨kb, j, none⟩ = some (.int .i32 j)) := hk
  have HT : Hid (∀ i, i < L → w.cell? ⟨b, o + i, none⟩ = some (.int .u8 (t i))) := ht
  have HSb : Hid (∀ j, j < N → 0 ≤ S j ∧ S j ≤ 2147483647) := hSb
  have H0 : Hid (Reach t L S E N base pf jf m0 p0 0 j0 ∧ r0 + j0 = N ∧ (0 < r0 → ao = some ⟨kb, j0, none⟩)) := ⟨hR, hrj, hao⟩
  clear hcv hv hk ht hSb hR hrj hao
  go_enter Try.func25, Try.ntmps25
  go_wp2_with fail
  go_loopw [2, 4, 12] (fun s u v wr => ∃ (p d j m r kr : Nat) (ao' : Option Addr), s = .int .i64 p ∧ v = .int .i64 d ∧ u = .slice ao' r kr ∧ r ≤ kr ∧ r + j = N ∧ (0 < r → ao' = some ⟨kb, j, none⟩) ∧ Reach t L S E N base pf jf m p d j ∧ Below w.heap.size w wr)
    (fun s _ _ _ => pf + 1 - (intOf s).toNat)
  case atStart => exact ⟨p0, 0, j0, m0, r0, kc, ao, rfl, rfl, rfl, hrk, H0.out.2.1, H0.out.2.2, H0.out.1, Below.refl _ _⟩
  case round =>
    obtain ⟨p, d, j, m, r, kr, ao', rfl, rfl, rfl, hrk, hrj, hao, hm, hbel⟩ := hrel
    have hpL := reach_lt hm
    have hpd := reach_depth _ _ _ _ hm
    have hcp : wr.cell? ⟨b, o + p, none⟩ = some (.int .u8 (t p)) := cell_later hbel (HT.out p hpL)
    have HB : Hid (Below w.heap.size w wr) := hbel
    have HR : Hid (r + j = N ∧ (0 < r → ao' = some ⟨kb, j, none⟩)) := ⟨hrj, hao⟩
    clear hbel hrj hao H0
    cases m with
    | zero =>
      obtain ⟨rfl, rfl, rfl, _, htm⟩ := hm
      have fin : Hid (∃ (ao'' : Option Addr) (r' kr' : Nat), (Value.slice ao' r kr = .slice ao'' r' kr') ∧ r' ≤ kr' ∧ r' + j = N ∧ (0 < r' → ao'' = some ⟨kb, j, none⟩)) := ⟨ao', r, kr, rfl, hrk, HR.out.1, HR.out.2⟩
      rcases htm with htm | htm | htm
      · have x1 : (t p == 34) = false := by simp [htm]
        have x2 : (t p == 123) = false := by simp [htm]
        have x3 : (t p == 91) = false := by simp [htm]
        have x4 : (t p == 125) = false := by simp [htm]
        have x5 : (t p == 93) = false := by simp [htm]
        have x6 : (t p == 44) = true := by simp [htm]
        clear htm
        go_wp2
        go_ret2
        exact ⟨ao', r, kr, rfl, hrk, HR.out.1, HR.out.2, HB.out⟩
      · have x1 : (t p == 34) = false := by simp [htm]
        have x2 : (t p == 123) = false := by simp [htm]
        have x3 : (t p == 91) = false := by simp [htm]
        have x4 : (t p == 125) = true := by simp [htm]
        clear htm
        go_wp2
        go_ret2
        exact ⟨ao', r, kr, rfl, hrk, HR.out.1, HR.out.2, HB.out⟩
      · have x1 : (t p == 34) = false := by simp [htm]
        have x2 : (t p == 123) = false := by simp [htm]
        have x3 : (t p == 91) = false := by simp [htm]
        have x4 : (t p == 125) = false := by simp [htm]
        have x5 : (t p == 93) = true := by simp [htm]
        clear htm
        go_wp2
        go_ret2
        exact ⟨ao', r, kr, rfl, hrk, HR.out.1, HR.out.2, HB.out⟩
    | succ m =>
      obtain ⟨_, hm⟩ := hm
      rcases hm with ⟨h34, k, q, hs, hm⟩ | ⟨h123, hjN, hSj, q, hEj, hpq, hqL, hm⟩ | ⟨h123, hnot, hm⟩ | ⟨h91, hm⟩ | ⟨hcl, hd0, hm⟩ | ⟨h44, hd0, hm⟩ | ⟨n1, n2, n3, n4, n5, n6, hm⟩
      · -- a string
        have hq1 := reach_lt hm
        have hq2 := reach_le _ _ _ _ hm
        have hq3 := strR_le _ _ hs
        have HM : Hid (Reach t L S E N base pf jf m (q + 1) d j) := hm
        have HSt : Hid (StrR t L q k (p + 1)) := hs
        have x1 : (t p == 34) = true := by simp [h34]
        clear h34 hm hs
        go_wp2_with fail
        refine (skipString_any b o L c p q k t wr hL (fun i hi => cell_later HB.out (HT.out i hi)) HSt.out).mono ?_
        rintro e w2 ⟨rfl, hw2⟩
        subst w2
        go_wp2
        go_roundw
        case rel => exact ⟨q + 1, d, j, m, r, kr, ao', by go_num, rfl, rfl, hrk, HR.out.1, HR.out.2, HM.out, HB.out⟩
        case measure => simp [intOf]; omega
      · -- a noted mapping
        have hr0 : 0 < r := by have := HR.out.1; omega
        have hao' := HR.out.2 hr0
        subst hao'
        have hq2 := reach_le _ _ _ _ hm
        have HM : Hid (Reach t L S E N base pf jf m q d (j + 1)) := hm
        have HSE : Hid (S j = base + (p : Int) ∧ E j = base + (q : Int)) := ⟨hSj, hEj⟩
        have hr2 : decide (0 < r) = true := by simpa using hr0
        have hr3 : (0 : Int) < (r : Int) := by omega
        have x1 : (t p == 34) = false := by simp [h123]
        have x2 : (t p == 123) = true := by simp [h123]
        have wj : IntKind.i64.wrap (j : Int) = (j : Int) := wrap_in _ (by omega) (by omega)
        have wbp : IntKind.i64.wrap (base + (p : Int)) = base + (p : Int) := wrap_in _ (by omega) (by omega)
        have wS : IntKind.i64.wrap (S j) = S j := wrap_in _ (by omega) (by omega)
        have wE : IntKind.i64.wrap (E j) = E j := wrap_in _ (by omega) (by omega)
        have wE1 : IntKind.i64.wrap (E j - base) = (q : Int) := by rw [wrap_in _ (by omega) (by omega)]; omega
        have wE2 : IntKind.i64.wrap ((q : Int) - 1) = (q : Int) - 1 := wrap_in _ (by omega) (by omega)
        have heq : (S j == base + (p : Int)) = true := by simp [hSj]
        have F : wr.cell? ⟨kb, j, none⟩ = some (.int .i32 j) ∧ wr.cell? ⟨Cb, 11, none⟩ = some cv ∧ NoteV wr cv j (S j) (E j) := ⟨cell_later HB.out (HK.out j hjN), cell_later HB.out HCV.out, (HV.out j hjN).later HB.out⟩
        have HF : Hid (wr.cell? ⟨kb, j, none⟩ = some (.int .i32 j) ∧ wr.cell? ⟨Cb, 11, none⟩ = some cv ∧ NoteV wr cv j (S j) (E j)) := F
        have hkc := F.1
        clear h123 hm hSj hEj F
        go_wp2_with fail
        refine wp_region_X (by kernel_rfl) (fun w' => w'.cell? ⟨kb, j, none⟩ = some (.int .i32 j)) (fun _ => false) ?_
        have HS : wr.drew.cell? ⟨kb, j, none⟩ = some (.int .i32 j) := hkc
        refine wpAnyX_take (i := 0) (v := ?_) rfl (by kernel_rfl) (by kernel_rfl) (by kernel_rfl) (by kernel_rfl) rfl (fun _ _ _ h => h) HS (Or.inl ⟨by rfl, ?_⟩) ?_
        rotate_left
        · (intro w hSw; (try dsimp only at hSw); go_simp <;> rfl)
        simp only [Act.put, List.setIfInBounds_toArray, List.set_cons_zero, List.set_cons_succ, List.getElem_toArray, List.getElem_cons_zero]
        refine wpAnyX_take (i := 1) (v := ?_) rfl (by kernel_rfl) (by kernel_rfl) (by kernel_rfl) (by kernel_rfl) rfl (fun _ _ _ h => h) HS (Or.inl ⟨by rfl, ?_⟩) ?_
        rotate_left
        · (intro w hSw; (try dsimp only at hSw); go_simp <;> rfl)
        simp only [Act.put, List.setIfInBounds_toArray, List.set_cons_zero, List.set_cons_succ, List.getElem_toArray, List.getElem_cons_zero, List.getElem_cons_succ]
        refine wpAnyX_take (i := 2) (v := ?_) rfl (by kernel_rfl) (by kernel_rfl) (by kernel_rfl) (by kernel_rfl) rfl (fun _ _ _ h => h) HS (Or.inl ⟨by rfl, ?_⟩) ?_
        rotate_left
        · (intro w hSw; (try dsimp only at hSw); go_simp <;> rfl)
        simp only [Act.put, List.setIfInBounds_toArray, List.set_cons_zero, List.set_cons_succ, List.getElem_toArray, List.getElem_cons_zero, List.getElem_cons_succ]
        refine wpAnyX_take (i := 3) (v := ?_) rfl (by kernel_rfl) (by kernel_rfl) (by kernel_rfl) (by kernel_rfl) rfl (fun _ _ _ h => h) HS (Or.inl ⟨by rfl, ?_⟩) ?_
        rotate_left
        · (intro w hSw; (try dsimp only at hSw); go_simp <;> rfl)
        simp only [Act.put, List.setIfInBounds_toArray, List.set_cons_zero, List.set_cons_succ, List.getElem_toArray, List.getElem_cons_zero, List.getElem_cons_succ]
        refine wpAnyX_take (i := 4) (v := ?_) rfl (by kernel_rfl) (by kernel_rfl) (by kernel_rfl) (by kernel_rfl) rfl (fun _ _ _ h => h) HS (Or.inl ⟨by rfl, ?_⟩) ?_
        rotate_left
        · (intro w hSw; (try dsimp only at hSw); go_simp <;> rfl)
        simp only [Act.put, List.setIfInBounds_toArray, List.set_cons_zero, List.set_cons_succ, List.getElem_toArray, List.getElem_cons_zero, List.getElem_cons_succ]
        refine wpAnyX_take (i := 5) (v := ?_) rfl (by kernel_rfl) (by kernel_rfl) (by kernel_rfl) (by kernel_rfl) rfl (fun _ _ _ h => h) HS (Or.inl ⟨by rfl, ?_⟩) ?_
        rotate_left
        · (intro w hSw; (try dsimp only at hSw); go_simp <;> rfl)
        simp only [Act.put, List.setIfInBounds_toArray, List.set_cons_zero, List.set_cons_succ, List.getElem_toArray, List.getElem_cons_zero, List.getElem_cons_succ]
        refine wpAnyX_take (i := 6) (v := ?_) rfl (by kernel_rfl) (by kernel_rfl) (by kernel_rfl) (by kernel_rfl) rfl (fun _ _ _ h => h) HS (Or.inl ⟨by rfl, ?_⟩) ?_
        rotate_left
        · (intro w hSw; (try dsimp only at hSw); go_simp <;> rfl)
        simp only [Act.put, List.setIfInBounds_toArray, List.set_cons_zero, List.set_cons_succ, List.getElem_toArray, List.getElem_cons_zero, List.getElem_cons_succ]
        refine wpAnyX_take (i := 7) (v := ?_) rfl (by kernel_rfl) (by kernel_rfl) (by kernel_rfl) (by kernel_rfl) rfl (fun _ _ _ h => h) HS (Or.inl ⟨by rfl, ?_⟩) ?_
        rotate_left
        · (intro w hSw; (try dsimp only at hSw); go_simp <;> rfl)
        simp only [Act.put, List.setIfInBounds_toArray, List.set_cons_zero, List.set_cons_succ, List.getElem_toArray, List.getElem_cons_zero, List.getElem_cons_succ]
        refine wpAnyX_take (i := 8) (v := ?_) rfl (by kernel_rfl) (by kernel_rfl) (by kernel_rfl) (by kernel_rfl) rfl (fun _ _ _ h => h) HS (Or.inl ⟨by rfl, ?_⟩) ?_
        rotate_left
        · (intro w hSw; (try dsimp only at hSw); go_simp <;> rfl)
        simp only [Act.put, List.setIfInBounds_toArray, List.set_cons_zero, List.set_cons_succ, List.getElem_toArray, List.getElem_cons_zero, List.getElem_cons_succ]
        refine wpAnyX_take (i := 9) (v := ?_) rfl (by kernel_rfl) (by kernel_rfl) (by kernel_rfl) (by kernel_rfl) rfl (fun _ _ _ h => h) HS (Or.inl ⟨by rfl, ?_⟩) ?_
        rotate_left
        · (intro w hSw; (try dsimp only at hSw); go_simp <;> rfl)
        simp only [Act.put, List.setIfInBounds_toArray, List.set_cons_zero, List.set_cons_succ, List.getElem_toArray, List.getElem_cons_zero, List.getElem_cons_succ]
        refine wpAnyX_take (i := 10) (v := ?_) rfl (by kernel_rfl) (by kernel_rfl) (by kernel_rfl) (by kernel_rfl) rfl (fun _ _ _ h => h) HS (Or.inl ⟨by rfl, ?_⟩) ?_
        rotate_left
        · (intro w hSw; (try dsimp only at hSw); go_simp <;> rfl)
        simp only [Act.put, List.setIfInBounds_toArray, List.set_cons_zero, List.set_cons_succ, List.getElem_toArray, List.getElem_cons_zero, List.getElem_cons_succ]
        refine wpAnyX_take (i := 11) (v := ?_) rfl (by kernel_rfl) (by kernel_rfl) (by kernel_rfl) (by kernel_rfl) rfl (fun _ _ _ h => h) HS (Or.inl ⟨by rfl, ?_⟩) ?_
        rotate_left
        · (intro w hSw; (try dsimp only at hSw); go_simp <;> rfl)
        simp only [Act.put, List.setIfInBounds_toArray, List.set_cons_zero, List.set_cons_succ, List.getElem_toArray, List.getElem_cons_zero, List.getElem_cons_succ]
        refine wpAnyX_take (i := 15) (v := ?_) rfl (by kernel_rfl) (by kernel_rfl) (by kernel_rfl) (by kernel_rfl) rfl (fun _ _ _ h => h) HS (Or.inl ⟨by rfl, ?_⟩) ?_
        rotate_left
        · (intro w hSw; (try dsimp only at hSw); go_simp <;> rfl)
        simp only [Act.put, List.setIfInBounds_toArray, List.set_cons_zero, List.set_cons_succ, List.getElem_toArray, List.getElem_cons_zero, List.getElem_cons_succ]
        refine wpAnyX_take (i := 16) (v := ?_) rfl (by kernel_rfl) (by kernel_rfl) (by kernel_rfl) (by kernel_rfl) rfl (fun _ _ _ h => h) HS (Or.inl ⟨by rfl, ?_⟩) ?_
        rotate_left
        · (intro w hSw; (try dsimp only at hSw); go_simp <;> rfl)
        simp only [Act.put, List.setIfInBounds_toArray, List.set_cons_zero, List.set_cons_succ, List.getElem_toArray, List.getElem_cons_zero, List.getElem_cons_succ]
        refine wpAnyX_take (i := 17) (v := ?_) rfl (by kernel_rfl) (by kernel_rfl) (by kernel_rfl) (by kernel_rfl) rfl (fun _ _ _ h => h) HS (Or.inl ⟨by rfl, ?_⟩) ?_
        rotate_left
        · (intro w hSw; (try dsimp only at hSw); go_simp <;> rfl)
        simp only [Act.put, List.setIfInBounds_toArray, List.set_cons_zero, List.set_cons_succ, List.getElem_toArray, List.getElem_cons_zero, List.getElem_cons_succ]
        refine wpAnyX_one (i := 12) (by kernel_rfl) rfl (fun K hK => ?_)
        go_simp
        refine (at_any Cb 11 j cv (S j) (E j) wr.drew (by omega) HF.out.2.1 (HF.out.2.2.later ⟨rfl, rfl, rfl, Nat.le_refl _, fun _ _ => rfl⟩)).mono ?_
        rintro e w2 ⟨rfl, hb2⟩
        have hb2' : Below wr.heap.size wr w2 := ⟨hb2.os, hb2.tape, hb2.output, hb2.size, hb2.block⟩
        have HS2 : w2.cell? ⟨kb, j, none⟩ = some (.int .i32 j) := cell_later hb2' hkc
        have HB2 : Hid (Below wr.heap.size wr w2) := hb2'
        clear hb2 hb2'
        dsimp only
        refine hK.out _ _ (fun _ => HS2) ?_
        clear hK K HS
        refine wpAnyX_take (i := 13) (v := ?_) rfl (by kernel_rfl) (by kernel_rfl) (by kernel_rfl) (by kernel_rfl) rfl (fun _ _ _ h => h) HS2 (Or.inl ⟨by rfl, ?_⟩) ?_
        rotate_left
        · (intro w hSw; (try dsimp only at hSw); go_simp <;> rfl)
        simp only [Act.put, List.setIfInBounds_toArray, List.set_cons_zero, List.set_cons_succ, List.getElem_toArray, List.getElem_cons_zero, List.getElem_cons_succ]
        refine wpAnyX_take (i := 14) (v := ?_) rfl (by kernel_rfl) (by kernel_rfl) (by kernel_rfl) (by kernel_rfl) rfl (fun _ _ _ h => h) HS2 (Or.inl ⟨by rfl, ?_⟩) ?_
        rotate_left
        · (intro w hSw; (try dsimp only at hSw); go_simp <;> rfl)
        simp only [Act.put, List.setIfInBounds_toArray, List.set_cons_zero, List.set_cons_succ, List.getElem_toArray, List.getElem_cons_zero, List.getElem_cons_succ]
        refine wpAnyX_take (i := 18) (v := ?_) rfl (by kernel_rfl) (by kernel_rfl) (by kernel_rfl) (by kernel_rfl) rfl (fun _ _ _ h => h) HS2 (Or.inl ⟨by rfl, ?_⟩) ?_
        rotate_left
        · (intro w hSw; (try dsimp only at hSw); go_simp <;> rfl)
        simp only [Act.put, List.setIfInBounds_toArray, List.set_cons_zero, List.set_cons_succ, List.getElem_toArray, List.getElem_cons_zero, List.getElem_cons_succ]
        refine wpAnyX_take (i := 19) (v := ?_) rfl (by kernel_rfl) (by kernel_rfl) (by kernel_rfl) (by kernel_rfl) rfl (fun _ _ _ h => h) HS2 (Or.inl ⟨by rfl, ?_⟩) ?_
        rotate_left
        · (intro w hSw; (try dsimp only at hSw); go_simp <;> rfl)
        simp only [Act.put, List.setIfInBounds_toArray, List.set_cons_zero, List.set_cons_succ, List.getElem_toArray, List.getElem_cons_zero, List.getElem_cons_succ]
        refine wpAnyX_done (by kernel_rfl) ?_ _
        go_wp2_with fail
        have HBw2 : Hid (Below w.heap.size w w2) := HB.out.trans (HB2.out.mono HB.out.size)
        refine wp_region_X (by kernel_rfl) (fun w' => w'.cell? ⟨kb, j, none⟩ = some (.int .i32 j)) (fun _ => false) ?_
        have HS3 : w2.drew.cell? ⟨kb, j, none⟩ = some (.int .i32 j) := HS2
        refine wpAnyX_take (i := 0) (v := ?_) rfl (by kernel_rfl) (by kernel_rfl) (by kernel_rfl) (by kernel_rfl) rfl (fun _ _ _ h => h) HS3 (Or.inl ⟨by rfl, ?_⟩) ?_
        rotate_left
        · (intro w hSw; (try dsimp only at hSw); go_simp <;> rfl)
        simp only [Act.put, List.setIfInBounds_toArray, List.set_cons_zero, List.set_cons_succ, List.getElem_toArray, List.getElem_cons_zero]
        refine wpAnyX_take (i := 1) (v := ?_) rfl (by kernel_rfl) (by kernel_rfl) (by kernel_rfl) (by kernel_rfl) rfl (fun _ _ _ h => h) HS3 (Or.inl ⟨by rfl, ?_⟩) ?_
        rotate_left
        · (intro w hSw; (try dsimp only at hSw); go_simp <;> rfl)
        simp only [Act.put, List.setIfInBounds_toArray, List.set_cons_zero, List.set_cons_succ, List.getElem_toArray, List.getElem_cons_zero, List.getElem_cons_succ]
        refine wpAnyX_take (i := 2) (v := ?_) rfl (by kernel_rfl) (by kernel_rfl) (by kernel_rfl) (by kernel_rfl) rfl (fun _ _ _ h => h) HS3 (Or.inl ⟨by rfl, ?_⟩) ?_
        rotate_left
        · (intro w hSw; (try dsimp only at hSw); go_simp <;> rfl)
        simp only [Act.put, List.setIfInBounds_toArray, List.set_cons_zero, List.set_cons_succ, List.getElem_toArray, List.getElem_cons_zero, List.getElem_cons_succ]
        refine wpAnyX_take (i := 3) (v := ?_) rfl (by kernel_rfl) (by kernel_rfl) (by kernel_rfl) (by kernel_rfl) rfl (fun _ _ _ h => h) HS3 (Or.inl ⟨by rfl, ?_⟩) ?_
        rotate_left
        · (intro w hSw; (try dsimp only at hSw); go_simp <;> rfl)
        simp only [Act.put, List.setIfInBounds_toArray, List.set_cons_zero, List.set_cons_succ, List.getElem_toArray, List.getElem_cons_zero, List.getElem_cons_succ]
        refine wpAnyX_take (i := 4) (v := ?_) rfl (by kernel_rfl) (by kernel_rfl) (by kernel_rfl) (by kernel_rfl) rfl (fun _ _ _ h => h) HS3 (Or.inl ⟨by rfl, ?_⟩) ?_
        rotate_left
        · (intro w hSw; (try dsimp only at hSw); go_simp <;> rfl)
        simp only [Act.put, List.setIfInBounds_toArray, List.set_cons_zero, List.set_cons_succ, List.getElem_toArray, List.getElem_cons_zero, List.getElem_cons_succ]
        refine wpAnyX_take (i := 5) (v := ?_) rfl (by kernel_rfl) (by kernel_rfl) (by kernel_rfl) (by kernel_rfl) rfl (fun _ _ _ h => h) HS3 (Or.inl ⟨by rfl, ?_⟩) ?_
        rotate_left
        · (intro w hSw; (try dsimp only at hSw); go_simp <;> rfl)
        simp only [Act.put, List.setIfInBounds_toArray, List.set_cons_zero, List.set_cons_succ, List.getElem_toArray, List.getElem_cons_zero, List.getElem_cons_succ]
        refine wpAnyX_take (i := 6) (v := ?_) rfl (by kernel_rfl) (by kernel_rfl) (by kernel_rfl) (by kernel_rfl) rfl (fun _ _ _ h => h) HS3 (Or.inl ⟨by rfl, ?_⟩) ?_
        rotate_left
        · (intro w hSw; (try dsimp only at hSw); go_simp <;> rfl)
        simp only [Act.put, List.setIfInBounds_toArray, List.set_cons_zero, List.set_cons_succ, List.getElem_toArray, List.getElem_cons_zero, List.getElem_cons_succ]
        refine wpAnyX_take (i := 7) (v := ?_) rfl (by kernel_rfl) (by kernel_rfl) (by kernel_rfl) (by kernel_rfl) rfl (fun _ _ _ h => h) HS3 (Or.inl ⟨by rfl, ?_⟩) ?_
        rotate_left
        · (intro w hSw; (try dsimp only at hSw); go_simp <;> rfl)
        simp only [Act.put, List.setIfInBounds_toArray, List.set_cons_zero, List.set_cons_succ, List.getElem_toArray, List.getElem_cons_zero, List.getElem_cons_succ]
        refine wpAnyX_take (i := 11) (v := ?_) rfl (by kernel_rfl) (by kernel_rfl) (by kernel_rfl) (by kernel_rfl) rfl (fun _ _ _ h => h) HS3 (Or.inl ⟨by rfl, ?_⟩) ?_
        rotate_left
        · (intro w hSw; (try dsimp only at hSw); go_simp <;> rfl)
        simp only [Act.put, List.setIfInBounds_toArray, List.set_cons_zero, List.set_cons_succ, List.getElem_toArray, List.getElem_cons_zero, List.getElem_cons_succ]
        refine wpAnyX_one (i := 8) (by kernel_rfl) rfl (fun K hK => ?_)
        go_simp
        refine (at_any Cb 11 j cv (S j) (E j) w2.drew (by omega) (cell_later HBw2.out.drew HCV.out) (((HV.out j hjN).later HBw2.out).later ⟨rfl, rfl, rfl, Nat.le_refl _, fun _ _ => rfl⟩)).mono ?_
        rintro e w3 ⟨rfl, hb3⟩
        have HB3 : Hid (Below w.heap.size w w3) := HBw2.out.trans ⟨hb3.os, hb3.tape, hb3.output, hb3.size, fun k hk => hb3.block k (by have := HBw2.out.size; show k < w2.heap.size; omega)⟩
        have HS4 : w3.cell? ⟨kb, j, none⟩ = some (.int .i32 j) := cell_later HB3.out (HK.out j hjN)
        clear hb3
        dsimp only
        refine hK.out _ _ (fun _ => HS4) ?_
        clear hK K HS2 HS3
        refine wpAnyX_take (i := 9) (v := ?_) rfl (by kernel_rfl) (by kernel_rfl) (by kernel_rfl) (by kernel_rfl) rfl (fun _ _ _ h => h) HS4 (Or.inl ⟨by rfl, ?_⟩) ?_
        rotate_left
        · (intro w hSw; (try dsimp only at hSw); go_simp <;> rfl)
        simp only [Act.put, List.setIfInBounds_toArray, List.set_cons_zero, List.set_cons_succ, List.getElem_toArray, List.getElem_cons_zero, List.getElem_cons_succ]
        refine wpAnyX_take (i := 10) (v := ?_) rfl (by kernel_rfl) (by kernel_rfl) (by kernel_rfl) (by kernel_rfl) rfl (fun _ _ _ h => h) HS4 (Or.inl ⟨by rfl, ?_⟩) ?_
        rotate_left
        · (intro w hSw; (try dsimp only at hSw); go_simp <;> rfl)
        simp only [Act.put, List.setIfInBounds_toArray, List.set_cons_zero, List.set_cons_succ, List.getElem_toArray, List.getElem_cons_zero, List.getElem_cons_succ]
        refine wpAnyX_take (i := 12) (v := ?_) rfl (by kernel_rfl) (by kernel_rfl) (by kernel_rfl) (by kernel_rfl) rfl (fun _ _ _ h => h) HS4 (Or.inl ⟨by rfl, ?_⟩) ?_
        rotate_left
        · (intro w hSw; (try dsimp only at hSw); go_simp <;> rfl)
        simp only [Act.put, List.setIfInBounds_toArray, List.set_cons_zero, List.set_cons_succ, List.getElem_toArray, List.getElem_cons_zero, List.getElem_cons_succ]
        refine wpAnyX_take (i := 13) (v := ?_) rfl (by kernel_rfl) (by kernel_rfl) (by kernel_rfl) (by kernel_rfl) rfl (fun _ _ _ h => h) HS4 (Or.inl ⟨by rfl, ?_⟩) ?_
        rotate_left
        · (intro w hSw; (try dsimp only at hSw); go_simp <;> rfl)
        simp only [Act.put, List.setIfInBounds_toArray, List.set_cons_zero, List.set_cons_succ, List.getElem_toArray, List.getElem_cons_zero, List.getElem_cons_succ]
        refine wpAnyX_take (i := 14) (v := ?_) rfl (by kernel_rfl) (by kernel_rfl) (by kernel_rfl) (by kernel_rfl) rfl (fun _ _ _ h => h) HS4 (Or.inl ⟨by rfl, ?_⟩) ?_
        rotate_left
        · (intro w hSw; (try dsimp only at hSw); go_simp <;> rfl)
        simp only [Act.put, List.setIfInBounds_toArray, List.set_cons_zero, List.set_cons_succ, List.getElem_toArray, List.getElem_cons_zero, List.getElem_cons_succ]
        refine wpAnyX_done (by kernel_rfl) ?_ _
        clear HS4 hkc wj wbp wS wE wE1 wE2 heq hr2
        by_cases hkr : kr = 1
        · subst hkr
          have hr1 : r = 1 := by omega
          subst hr1
          go_wp2
          go_roundw
          case rel => exact ⟨q, d, j + 1, m, 0, 0, _, by go_num, rfl, rfl, Nat.le_refl _, by have := HR.out.1; omega, fun h => absurd h (by omega), HM.out, HB3.out⟩
          case measure => simp [intOf]; omega
        · have hkr1 : 1 < kr := by omega
          go_wp2
          go_roundw
          case rel => exact ⟨q, d, j + 1, m, r - 1, kr - 1, _, by go_num, rfl, rfl, by omega, by have := HR.out.1; omega, fun _ => rfl, HM.out, HB3.out⟩
          case measure => simp [intOf]; omega
      · -- a mapping that is not noted
        have hq2 := reach_le _ _ _ _ hm
        have hq3 := reach_depth _ _ _ _ hm
        have HM : Hid (Reach t L S E N base pf jf m (p + 1) (d + 1) j) := hm
        have x1 : (t p == 34) = false := by simp [h123]
        have x2 : (t p == 123) = true := by simp [h123]
        by_cases hr0 : 0 < r
        · have hjN : j < N := by have := HR.out.1; omega
          have hao' := HR.out.2 hr0
          subst hao'
          have hSb := HSb.out j hjN
          have hSne : S j ≠ base + (p : Int) := hnot.resolve_left (by omega)
          have hr2 : decide (0 < r) = true := by simpa using hr0
          have hr3 : (0 : Int) < (r : Int) := by omega
          have wj : IntKind.i64.wrap (j : Int) = (j : Int) := wrap_in _ (by omega) (by omega)
          have wbp : IntKind.i64.wrap (base + (p : Int)) = base + (p : Int) := wrap_in _ (by omega) (by omega)
          have wS : IntKind.i64.wrap (S j) = S j := wrap_in _ (by omega) (by omega)
          have heq : (S j == base + (p : Int)) = false := by simp [hSne]
          have F : wr.cell? ⟨kb, j, none⟩ = some (.int .i32 j) ∧ wr.cell? ⟨Cb, 11, none⟩ = some cv ∧ NoteV wr cv j (S j) (E j) := ⟨cell_later HB.out (HK.out j hjN), cell_later HB.out HCV.out, (HV.out j hjN).later HB.out⟩
          have HF : Hid (wr.cell? ⟨kb, j, none⟩ = some (.int .i32 j) ∧ wr.cell? ⟨Cb, 11, none⟩ = some cv ∧ NoteV wr cv j (S j) (E j)) := F
          have hkc := F.1
          clear h123 hm F hnot hSne hSb
          go_wp2_with fail
          refine wp_region_X (by kernel_rfl) (fun w' => w'.cell? ⟨kb, j, none⟩ = some (.int .i32 j)) (fun _ => false) ?_
          have HS : wr.drew.cell? ⟨kb, j, none⟩ = some (.int .i32 j) := hkc
          refine wpAnyX_take (i := 0) (v := ?_) rfl (by kernel_rfl) (by kernel_rfl) (by kernel_rfl) (by kernel_rfl) rfl (fun _ _ _ h => h) HS (Or.inl ⟨by rfl, ?_⟩) ?_
          rotate_left
          · (intro w hSw; (try dsimp only at hSw); go_simp <;> rfl)
          simp only [Act.put, List.setIfInBounds_toArray, List.set_cons_zero, List.set_cons_succ, List.getElem_toArray, List.getElem_cons_zero]
          refine wpAnyX_take (i := 1) (v := ?_) rfl (by kernel_rfl) (by kernel_rfl) (by kernel_rfl) (by kernel_rfl) rfl (fun _ _ _ h => h) HS (Or.inl ⟨by rfl, ?_⟩) ?_
          rotate_left
          · (intro w hSw; (try dsimp only at hSw); go_simp <;> rfl)
          simp only [Act.put, List.setIfInBounds_toArray, List.set_cons_zero, List.set_cons_succ, List.getElem_toArray, List.getElem_cons_zero, List.getElem_cons_succ]
          refine wpAnyX_take (i := 2) (v := ?_) rfl (by kernel_rfl) (by kernel_rfl) (by kernel_rfl) (by kernel_rfl) rfl (fun _ _ _ h => h) HS (Or.inl ⟨by rfl, ?_⟩) ?_
          rotate_left
          · (intro w hSw; (try dsimp only at hSw); go_simp <;> rfl)
          simp only [Act.put, List.setIfInBounds_toArray, List.set_cons_zero, List.set_cons_succ, List.getElem_toArray, List.getElem_cons_zero, List.getElem_cons_succ]
          refine wpAnyX_take (i := 3) (v := ?_) rfl (by kernel_rfl) (by kernel_rfl) (by kernel_rfl) (by kernel_rfl) rfl (fun _ _ _ h => h) HS (Or.inl ⟨by rfl, ?_⟩) ?_
          rotate_left
          · (intro w hSw; (try dsimp only at hSw); go_simp <;> rfl)
          simp only [Act.put, List.setIfInBounds_toArray, List.set_cons_zero, List.set_cons_succ, List.getElem_toArray, List.getElem_cons_zero, List.getElem_cons_succ]
          refine wpAnyX_take (i := 4) (v := ?_) rfl (by kernel_rfl) (by kernel_rfl) (by kernel_rfl) (by kernel_rfl) rfl (fun _ _ _ h => h) HS (Or.inl ⟨by rfl, ?_⟩) ?_
          rotate_left
          · (intro w hSw; (try dsimp only at hSw); go_simp <;> rfl)
          simp only [Act.put, List.setIfInBounds_toArray, List.set_cons_zero, List.set_cons_succ, List.getElem_toArray, List.getElem_cons_zero, List.getElem_cons_succ]
          refine wpAnyX_take (i := 5) (v := ?_) rfl (by kernel_rfl) (by kernel_rfl) (by kernel_rfl) (by kernel_rfl) rfl (fun _ _ _ h => h) HS (Or.inl ⟨by rfl, ?_⟩) ?_
          rotate_left
          · (intro w hSw; (try dsimp only at hSw); go_simp <;> rfl)
          simp only [Act.put, List.setIfInBounds_toArray, List.set_cons_zero, List.set_cons_succ, List.getElem_toArray, List.getElem_cons_zero, List.getElem_cons_succ]
          refine wpAnyX_take (i := 6) (v := ?_) rfl (by kernel_rfl) (by kernel_rfl) (by kernel_rfl) (by kernel_rfl) rfl (fun _ _ _ h => h) HS (Or.inl ⟨by rfl, ?_⟩) ?_
          rotate_left
          · (intro w hSw; (try dsimp only at hSw); go_simp <;> rfl)
          simp only [Act.put, List.setIfInBounds_toArray, List.set_cons_zero, List.set_cons_succ, List.getElem_toArray, List.getElem_cons_zero, List.getElem_cons_succ]
          refine wpAnyX_take (i := 7) (v := ?_) rfl (by kernel_rfl) (by kernel_rfl) (by kernel_rfl) (by kernel_rfl) rfl (fun _ _ _ h => h) HS (Or.inl ⟨by rfl, ?_⟩) ?_
          rotate_left
          · (intro w hSw; (try dsimp only at hSw); go_simp <;> rfl)
          simp only [Act.put, List.setIfInBounds_toArray, List.set_cons_zero, List.set_cons_succ, List.getElem_toArray, List.getElem_cons_zero, List.getElem_cons_succ]
          refine wpAnyX_take (i := 8) (v := ?_) rfl (by kernel_rfl) (by kernel_rfl) (by kernel_rfl) (by kernel_rfl) rfl (fun _ _ _ h => h) HS (Or.inl ⟨by rfl, ?_⟩) ?_
          rotate_left
          · (intro w hSw; (try dsimp only at hSw); go_simp <;> rfl)
          simp only [Act.put, List.setIfInBounds_toArray, List.set_cons_zero, List.set_cons_succ, List.getElem_toArray, List.getElem_cons_zero, List.getElem_cons_succ]
          refine wpAnyX_take (i := 9) (v := ?_) rfl (by kernel_rfl) (by kernel_rfl) (by kernel_rfl) (by kernel_rfl) rfl (fun _ _ _ h => h) HS (Or.inl ⟨by rfl, ?_⟩) ?_
          rotate_left
          · (intro w hSw; (try dsimp only at hSw); go_simp <;> rfl)
          simp only [Act.put, List.setIfInBounds_toArray, List.set_cons_zero, List.set_cons_succ, List.getElem_toArray, List.getElem_cons_zero, List.getElem_cons_succ]
          refine wpAnyX_take (i := 10) (v := ?_) rfl (by kernel_rfl) (by kernel_rfl) (by kernel_rfl) (by kernel_rfl) rfl (fun _ _ _ h => h) HS (Or.inl ⟨by rfl, ?_⟩) ?_
          rotate_left
          · (intro w hSw; (try dsimp only at hSw); go_simp <;> rfl)
          simp only [Act.put, List.setIfInBounds_toArray, List.set_cons_zero, List.set_cons_succ, List.getElem_toArray, List.getElem_cons_zero, List.getElem_cons_succ]
          refine wpAnyX_take (i := 11) (v := ?_) rfl (by kernel_rfl) (by kernel_rfl) (by kernel_rfl) (by kernel_rfl) rfl (fun _ _ _ h => h) HS (Or.inl ⟨by rfl, ?_⟩) ?_
          rotate_left
          · (intro w hSw; (try dsimp only at hSw); go_simp <;> rfl)
          simp only [Act.put, List.setIfInBounds_toArray, List.set_cons_zero, List.set_cons_succ, List.getElem_toArray, List.getElem_cons_zero, List.getElem_cons_succ]
          refine wpAnyX_take (i := 15) (v := ?_) rfl (by kernel_rfl) (by kernel_rfl) (by kernel_rfl) (by kernel_rfl) rfl (fun _ _ _ h => h) HS (Or.inl ⟨by rfl, ?_⟩) ?_
          rotate_left
          · (intro w hSw; (try dsimp only at hSw); go_simp <;> rfl)
          simp only [Act.put, List.setIfInBounds_toArray, List.set_cons_zero, List.set_cons_succ, List.getElem_toArray, List.getElem_cons_zero, List.getElem_cons_succ]
          refine wpAnyX_take (i := 16) (v := ?_) rfl (by kernel_rfl) (by kernel_rfl) (by kernel_rfl) (by kernel_rfl) rfl (fun _ _ _ h => h) HS (Or.inl ⟨by rfl, ?_⟩) ?_
          rotate_left
          · (intro w hSw; (try dsimp only at hSw); go_simp <;> rfl)
          simp only [Act.put, List.setIfInBounds_toArray, List.set_cons_zero, List.set_cons_succ, List.getElem_toArray, List.getElem_cons_zero, List.getElem_cons_succ]
          refine wpAnyX_take (i := 17) (v := ?_) rfl (by kernel_rfl) (by kernel_rfl) (by kernel_rfl) (by kernel_rfl) rfl (fun _ _ _ h => h) HS (Or.inl ⟨by rfl, ?_⟩) ?_
          rotate_left
          · (intro w hSw; (try dsimp only at hSw); go_simp <;> rfl)
          simp only [Act.put, List.setIfInBounds_toArray, List.set_cons_zero, List.set_cons_succ, List.getElem_toArray, List.getElem_cons_zero, List.getElem_cons_succ]
          refine wpAnyX_one (i := 12) (by kernel_rfl) rfl (fun K hK => ?_)
          go_simp
          refine (at_any Cb 11 j cv (S j) (E j) wr.drew (by omega) HF.out.2.1 (HF.out.2.2.later ⟨rfl, rfl, rfl, Nat.le_refl _, fun _ _ => rfl⟩)).mono ?_
          rintro e w2 ⟨rfl, hb2⟩
          have hb2' : Below wr.heap.size wr w2 := ⟨hb2.os, hb2.tape, hb2.output, hb2.size, hb2.block⟩
          have HS2 : w2.cell? ⟨kb, j, none⟩ = some (.int .i32 j) := cell_later hb2' hkc
          have HB2 : Hid (Below wr.heap.size wr w2) := hb2'
          clear hb2 hb2'
          dsimp only
          refine hK.out _ _ (fun _ => HS2) ?_
          clear hK K HS
          refine wpAnyX_take (i := 13) (v := ?_) rfl (by kernel_rfl) (by kernel_rfl) (by kernel_rfl) (by kernel_rfl) rfl (fun _ _ _ h => h) HS2 (Or.inl ⟨by rfl, ?_⟩) ?_
          rotate_left
          · (intro w hSw; (try dsimp only at hSw); go_simp <;> rfl)
          simp only [Act.put, List.setIfInBounds_toArray, List.set_cons_zero, List.set_cons_succ, List.getElem_toArray, List.getElem_cons_zero, List.getElem_cons_succ]
          refine wpAnyX_take (i := 14) (v := ?_) rfl (by kernel_rfl) (by kernel_rfl) (by kernel_rfl) (by kernel_rfl) rfl (fun _ _ _ h => h) HS2 (Or.inl ⟨by rfl, ?_⟩) ?_
          rotate_left
          · (intro w hSw; (try dsimp only at hSw); go_simp <;> rfl)
          simp only [Act.put, List.setIfInBounds_toArray, List.set_cons_zero, List.set_cons_succ, List.getElem_toArray, List.getElem_cons_zero, List.getElem_cons_succ]
          refine wpAnyX_take (i := 18) (v := ?_) rfl (by kernel_rfl) (by kernel_rfl) (by kernel_rfl) (by kernel_rfl) rfl (fun _ _ _ h => h) HS2 (Or.inl ⟨by rfl, ?_⟩) ?_
          rotate_left
          · (intro w hSw; (try dsimp only at hSw); go_simp <;> rfl)
          simp only [Act.put, List.setIfInBounds_toArray, List.set_cons_zero, List.set_cons_succ, List.getElem_toArray, List.getElem_cons_zero, List.getElem_cons_succ]
          refine wpAnyX_take (i := 19) (v := ?_) rfl (by kernel_rfl) (by kernel_rfl) (by kernel_rfl) (by kernel_rfl) rfl (fun _ _ _ h => h) HS2 (Or.inl ⟨by rfl, ?_⟩) ?_
          rotate_left
          · (intro w hSw; (try dsimp only at hSw); go_simp <;> rfl)
          simp only [Act.put, List.setIfInBounds_toArray, List.set_cons_zero, List.set_cons_succ, List.getElem_toArray, List.getElem_cons_zero, List.getElem_cons_succ]
          refine wpAnyX_done (by kernel_rfl) ?_ _
          go_wp2_with fail
          have HBw2 : Hid (Below w.heap.size w w2) := HB.out.trans (HB2.out.mono HB.out.size)
          go_roundw
          case rel => exact ⟨p + 1, d + 1, j, m, r, kr, _, by go_num, by go_num, rfl, hrk, HR.out.1, fun _ => rfl, HM.out, HBw2.out⟩
          case measure => simp [intOf]; omega
        · have hr1 : r = 0 := by omega
          subst hr1
          clear h123 hm hnot
          go_wp2_with fail
          go_quiet (fail)
          go_wp2
          go_roundw
          case rel => exact ⟨p + 1, d + 1, j, m, 0, kr, _, by go_num, by go_num, rfl, hrk, HR.out.1, HR.out.2, HM.out, below_drewN HB.out _⟩
          case measure => simp [intOf]; omega
      · -- a list opens
        have hq3 := reach_depth _ _ _ _ hm
        have HM : Hid (Reach t L S E N base pf jf m (p + 1) (d + 1) j) := hm
        have x1 : (t p == 34) = false := by simp [h91]
        have x2 : (t p == 123) = false := by simp [h91]
        have x3 : (t p == 91) = true := by simp [h91]
        clear h91 hm
        go_wp2
        go_roundw
        case rel => exact ⟨p + 1, d + 1, j, m, r, kr, ao', by go_num, by go_num, rfl, hrk, HR.out.1, HR.out.2, HM.out, HB.out⟩
        case measure => simp [intOf]; omega
      · -- one closes
        have hq3 := reach_depth _ _ _ _ hm
        have HM : Hid (Reach t L S E N base pf jf m (p + 1) (d - 1) j) := hm
        have hdz : ((d : Int) == 0) = false := by simp; omega
        have e1 : (d : Int) - 1 = ((d - 1 : Nat) : Int) := by omega
        rcases hcl with hcl | hcl
        · have x1 : (t p == 34) = false := by simp [hcl]
          have x2 : (t p == 123) = false := by simp [hcl]
          have x3 : (t p == 91) = false := by simp [hcl]
          have x4 : (t p == 125) = true := by simp [hcl]
          have x5 : (t p != 44) = true := by simp [hcl]
          clear hcl hm
          go_wp2
          go_roundw
          case rel => exact ⟨p + 1, d - 1, j, m, r, kr, ao', by go_num, rfl, rfl, hrk, HR.out.1, HR.out.2, HM.out, HB.out⟩
          case measure => simp [intOf]; omega
        · have x1 : (t p == 34) = false := by simp [hcl]
          have x2 : (t p == 123) = false := by simp [hcl]
          have x3 : (t p == 91) = false := by simp [hcl]
          have x4 : (t p == 125) = false := by simp [hcl]
          have x4' : (t p == 93) = true := by simp [hcl]
          have x5 : (t p != 44) = true := by simp [hcl]
          clear hcl hm
          go_wp2
          go_roundw
          case rel => exact ⟨p + 1, d - 1, j, m, r, kr, ao', by go_num, rfl, rfl, hrk, HR.out.1, HR.out.2, HM.out, HB.out⟩
          case measure => simp [intOf]; omega
      · -- a comma inside
        have hq3 := reach_depth _ _ _ _ hm
        have HM : Hid (Reach t L S E N base pf jf m (p + 1) d j) := hm
        have hdz : ((d : Int) == 0) = false := by simp; omega
        have x1 : (t p == 34) = false := by simp [h44]
        have x2 : (t p == 123) = false := by simp [h44]
        have x3 : (t p == 91) = false := by simp [h44]
        have x4 : (t p == 125) = false := by simp [h44]
        have x5 : (t p == 93) = false := by simp [h44]
        have x6 : (t p == 44) = true := by simp [h44]
        have x7 : (t p != 44) = false := by simp [h44]
        clear h44 hm
        go_wp2
        go_roundw
        case rel => exact ⟨p + 1, d, j, m, r, kr, ao', by go_num, rfl, rfl, hrk, HR.out.1, HR.out.2, HM.out, HB.out⟩
        case measure => simp [intOf]; omega
      · -- any other byte
        have hq3 := reach_depth _ _ _ _ hm
        have HM : Hid (Reach t L S E N base pf jf m (p + 1) d j) := hm
        have x1 : (t p == 34) = false := by simp [n1]
        have x2 : (t p == 123) = false := by simp [n2]
        have x3 : (t p == 91) = false := by simp [n3]
        have x4 : (t p == 125) = false := by simp [n4]
        have x5 : (t p == 93) = false := by simp [n5]
        have x6 : (t p == 44) = false := by simp [n6]
        clear n1 n2 n3 n4 n5 n6 hm
        go_wp2
        go_roundw
        case rel => exact ⟨p + 1, d, j, m, r, kr, ao', by go_num, rfl, rfl, hrk, HR.out.1, HR.out.2, HM.out, HB.out⟩
        case measure => simp [intOf]; omega

end Go.Proofs.Qxb6000404a
