import Derived.Test.Qxb6000404aRows4
namespace Go.Proofs.Qxb6000404a
open Go.RowKit

set_option maxRecDepth 100000 in
theorem skips_out (A1 A2 A3 A4 A5 : Option Addr) (n1 n2 n3 n4 n5 c1 c2 c3 c4 c5 : Nat) (tm base X : Int) (w : World) (h : 1048576 < n1 + n2 + n3 + n4 + n5 ∨ base < 0 ∨ 1048576 < base ∨ X < 0 ∨ 4096 < X) :
    Calls Try.prog 6 #[.slice A1 n1 c1, .slice A2 n2 c2, .slice A3 n3 c3, .slice A4 n4 c4, .int .u8 tm, .slice A5 n5 c5, .int .i64 base, .int .i64 X] w fun e w' => e = .returned (.bool true) ∧ Below w.heap.size w w' := by
  by_cases h1 : 1048576 < n1 + n2 + n3 + n4 + n5
  · clear h
    go_enter Try.func6, Try.ntmps6
    go_wp2_with (go_at_call 15; refine (bytes15_no _ _ _ _ _ _ _ _ _ _ _ _ _ _ _ _ _ _ _ h1).mono ?_; rintro e w' ⟨rfl, hw'⟩; subst w')
    go_ret
    exact ⟨rfl, Below.refl _ _⟩
  have h2 : n1 + n2 + n3 + n4 + n5 ≤ 1048576 := by omega
  by_cases g0 : base < 0
  · clear h
    go_enter Try.func6, Try.ntmps6
    go_wp2_with (go_at_call 15; refine (bytes15_yes _ _ _ _ _ _ _ _ _ _ _ _ _ _ _ _ _ _ _ h2).mono ?_; rintro e w' ⟨rfl, hw'⟩; subst w')
    go_ret
    exact ⟨rfl, Below.refl _ _⟩
  by_cases g1 : 1048576 < base
  · clear h
    go_enter Try.func6, Try.ntmps6
    go_wp2_with (go_at_call 15; refine (bytes15_yes _ _ _ _ _ _ _ _ _ _ _ _ _ _ _ _ _ _ _ h2).mono ?_; rintro e w' ⟨rfl, hw'⟩; subst w')
    go_ret
    exact ⟨rfl, Below.refl _ _⟩
  by_cases g2 : X < 0
  · clear h
    go_enter Try.func6, Try.ntmps6
    go_wp2_with (go_at_call 15; refine (bytes15_yes _ _ _ _ _ _ _ _ _ _ _ _ _ _ _ _ _ _ _ h2).mono ?_; rintro e w' ⟨rfl, hw'⟩; subst w')
    go_ret
    exact ⟨rfl, Below.refl _ _⟩
  by_cases g3 : 4096 < X
  · clear h
    go_enter Try.func6, Try.ntmps6
    go_wp2_with (go_at_call 15; refine (bytes15_yes _ _ _ _ _ _ _ _ _ _ _ _ _ _ _ _ _ _ _ h2).mono ?_; rintro e w' ⟨rfl, hw'⟩; subst w')
    go_ret
    exact ⟨rfl, Below.refl _ _⟩
  omega

/-- The notes behind the text. -/
def exs (b : Int) (q : Nat) : List Int := (List.range q).map (fun i : Nat => b + 2 * (i : Int))
theorem exs_len (b : Int) (q : Nat) : (exs b q).length = q := by simp [exs]
theorem exs_succ (b : Int) (q : Nat) : exs b (q + 1) = exs b q ++ [b + 2 * (q : Int)] := by simp [exs, List.range_succ]

set_option maxRecDepth 100000 in
set_option maxHeartbeats 4000000 in
theorem skips_main (A0 A1 A2 A3 A5 : Option Addr) (n0 n1 n2 n3 n5 c0 c1 c2 c3 c5 : Nat) (Z0 Sh In St Tl : List Int) (tm base X : Int) (w : World) (h : n0 + n1 + n2 + n3 + n5 ≤ 1048576) (hb0 : 0 ≤ base) (hb1 : base ≤ 1048576) (hx0 : 0 ≤ X) (hx1 : X ≤ 4096) (ht0 : 0 ≤ tm) (ht1 : tm ≤ 255)
    (r0 : Reads w A0 c0 Z0) (r1 : Reads w A1 c1 Sh) (r2 : Reads w A2 c2 In) (r3 : Reads w A3 c3 St) (r5 : Reads w A5 c5 Tl) (e0 : Z0.length = n0) (e1 : Sh.length = n1) (e2 : In.length = n2) (e3 : St.length = n3) (e5 : Tl.length = n5) :
    Calls Try.prog 6 #[.slice A0 n0 c0, .slice A1 n1 c1, .slice A2 n2 c2, .slice A3 n3 c3, .int .u8 tm, .slice A5 n5 c5, .int .i64 base, .int .i64 X] w fun e w' => e = .returned (.bool true) ∧ Below w.heap.size w w' := by
  have HR0 : Hid (Reads w A0 c0 Z0 ∧ Z0.length = n0) := ⟨r0, e0⟩
  have HR1 : Hid (Reads w A1 c1 Sh ∧ Sh.length = n1) := ⟨r1, e1⟩
  have HR2 : Hid (Reads w A2 c2 In ∧ In.length = n2) := ⟨r2, e2⟩
  have HR3 : Hid (Reads w A3 c3 St ∧ St.length = n3) := ⟨r3, e3⟩
  have HR5 : Hid (Reads w A5 c5 Tl ∧ Tl.length = n5) := ⟨r5, e5⟩
  obtain ⟨x, hx⟩ := Int.eq_ofNat_of_zero_le hx0
  have HX : Hid (X = (x : Int)) := hx
  have hx2 : x ≤ 4096 := by omega
  clear r0 r1 r2 r3 r5 e0 e1 e2 e3 e5 hx
  go_enter Try.func6, Try.ntmps6
  go_wp2_with (go_at_call 15; refine (bytes15_yes _ _ _ _ _ _ _ _ _ _ _ _ _ _ _ _ _ _ _ h).mono ?_; rintro e w' ⟨rfl, hw'⟩; subst w')
  refine (fits_any w A1 A2 A3 c1 c2 c3 n1 n2 n3 Sh HR1.out.2 (by omega) (by omega) (by omega) (HR1.out.1.fits HR1.out.2) HR1.out.1.byte).mono ?_
  rintro e w' ⟨hs, hw'⟩
  subst w'
  rcases hs.says with rfl | ⟨rfl, hfit⟩
  · clear hs
    go_wp2
    go_ret
    exact ⟨rfl, Below.refl _ _⟩
  have HFIT : Hid (Fits Sh n2 n3) := hfit
  clear hs hfit
  go_wp2_with fail
  refine (clone_reads w A0 c0 n0 Z0 HR0.out.1 HR0.out.2 (by omega)).mono ?_
  rintro e wa ⟨A0', c0', rfl, rd0, _, b0⟩
  have HB0 : Hid (Below w.heap.size w wa) := b0
  have HS0 : Hid (Reads wa A0' c0' Z0) := rd0
  clear rd0 b0
  go_wp2_with fail
  refine (clone_reads wa A1 c1 n1 Sh (HR1.out.1.keep HB0.out) HR1.out.2 (by omega)).mono ?_
  rintro e wb ⟨A1', c1', rfl, rd1, _, b1⟩
  have HB1 : Hid (Below w.heap.size w wb) := hid (HB0.out.trans (b1.mono HB0.out.size))
  have rd0' := HS0.out.keep b1
  clear HS0
  have HS0 : Hid (Reads wb A0' c0' Z0) := rd0'
  clear rd0'
  have HS1 : Hid (Reads wb A1' c1' Sh) := rd1
  clear rd1 b1
  go_wp2_with fail
  refine (clone_reads wb A2 c2 n2 In (HR2.out.1.keep HB1.out) HR2.out.2 (by omega)).mono ?_
  rintro e wc ⟨A2', c2', rfl, rd2, _, b2⟩
  have HB2 : Hid (Below w.heap.size w wc) := hid (HB1.out.trans (b2.mono HB1.out.size))
  have rd0' := HS0.out.keep b2
  clear HS0
  have HS0 : Hid (Reads wc A0' c0' Z0) := rd0'
  clear rd0'
  have rd1' := HS1.out.keep b2
  clear HS1
  have HS1 : Hid (Reads wc A1' c1' Sh) := rd1'
  clear rd1'
  have HS2 : Hid (Reads wc A2' c2' In) := rd2
  clear rd2 b2
  go_wp2_with fail
  refine (clone_reads wc A3 c3 n3 St (HR3.out.1.keep HB2.out) HR3.out.2 (by omega)).mono ?_
  rintro e wd ⟨A3', c3', rfl, rd3, _, b3⟩
  have HB3 : Hid (Below w.heap.size w wd) := hid (HB2.out.trans (b3.mono HB2.out.size))
  have rd0' := HS0.out.keep b3
  clear HS0
  have HS0 : Hid (Reads wd A0' c0' Z0) := rd0'
  clear rd0'
  have rd1' := HS1.out.keep b3
  clear HS1
  have HS1 : Hid (Reads wd A1' c1' Sh) := rd1'
  clear rd1'
  have rd2' := HS2.out.keep b3
  clear HS2
  have HS2 : Hid (Reads wd A2' c2' In) := rd2'
  clear rd2'
  have HS3 : Hid (Reads wd A3' c3' St) := rd3
  clear rd3 b3
  go_wp2_with fail
  refine (clone_reads wd A5 c5 n5 Tl (HR5.out.1.keep HB3.out) HR5.out.2 (by omega)).mono ?_
  rintro e w5 ⟨A5', c5', rfl, rd5, _, b5⟩
  have HB4 : Hid (Below w.heap.size w w5) := hid (HB3.out.trans (b5.mono HB3.out.size))
  have rd0' := HS0.out.keep b5
  clear HS0
  have HS0 : Hid (Reads w5 A0' c0' Z0) := rd0'
  clear rd0'
  have rd1' := HS1.out.keep b5
  clear HS1
  have HS1 : Hid (Reads w5 A1' c1' Sh) := rd1'
  clear rd1'
  have rd2' := HS2.out.keep b5
  clear HS2
  have HS2 : Hid (Reads w5 A2' c2' In) := rd2'
  clear rd2'
  have rd3' := HS3.out.keep b5
  clear HS3
  have HS3 : Hid (Reads w5 A3' c3' St) := rd3'
  clear rd3'
  have HS5 : Hid (Reads w5 A5' c5' Tl) := rd5
  clear rd5 b5
  have B05 : Hid (Below w.heap.size w w5) := HB4
  have RD0 : Hid (Reads w5 A0' c0' Z0 ∧ Z0.length = n0) := hid ⟨HS0.out, HR0.out.2⟩
  have RD1 : Hid (Reads w5 A1' c1' Sh ∧ Sh.length = n1) := hid ⟨HS1.out, HR1.out.2⟩
  have RD2 : Hid (Reads w5 A2' c2' In ∧ In.length = n2) := hid ⟨HS2.out, HR2.out.2⟩
  have RD3 : Hid (Reads w5 A3' c3' St ∧ St.length = n3) := hid ⟨HS3.out, HR3.out.2⟩
  have RD5 : Hid (Reads w5 A5' c5' Tl ∧ Tl.length = n5) := hid ⟨HS5.out, HR5.out.2⟩
  clear HB0 HB1 HB2 HB3 HB4 HS0 HS1 HS2 HS3 HS5 HR0 HR1 HR2 HR3 HR5
  obtain ⟨T1, hT1⟩ : ∃ T1, Z0 ++ rend In St Sh [] = T1 := ⟨_, rfl⟩
  obtain ⟨nT, hnT⟩ : ∃ nT, (notes In St Sh [] Z0.length).map (fun a => base + (a.1 : Int)) = nT := ⟨_, rfl⟩
  obtain ⟨eT, heT⟩ : ∃ eT, (notes In St Sh [] Z0.length).map (fun a => base + (a.2 : Int)) = eT := ⟨_, rfl⟩
  have hl1 : T1.length ≤ 8388608 := by
    have := rend_len In St Sh []
    have f3 := HFIT.out.f3
    have f6 := HFIT.out.f6
    rw [← RD3.out.2] at f3
    rw [← RD2.out.2] at f6
    have := RD1.out.2
    have := RD0.out.2
    rw [← hT1]
    simp only [List.length_append, List.length_nil] at *
    omega
  have hl2 : nT.length ≤ 1048576 := by
    have := notes_len In St Sh [] Z0.length
    have := cn_le 6 Sh
    have := RD1.out.2
    rw [← hnT]
    simp
    omega
  have HL3 : Hid (eT.length = nT.length) := hid (by rw [← hnT, ← heT]; simp)
  have hl3 : eT.length ≤ 1048576 := by rw [HL3.out]; exact hl2
  have HTOT : Hid (Z0 ++ rend In St Sh [] = T1 ∧ (notes In St Sh [] Z0.length).map (fun a => base + (a.1 : Int)) = nT ∧ (notes In St Sh [] Z0.length).map (fun a => base + (a.2 : Int)) = eT) := hid ⟨hT1, hnT, heT⟩
  clear hT1 hnT heT HFIT
  go_wp2_with fail
  go_loopw [17, 18] (fun u17 u18 wr => ∃ (k : Nat) (out : List Int), k ≤ n0 ∧ u18 = .int .i64 k ∧ (∃ oa oc, u17 = .slice oa out.length oc) ∧ Rows3 w5 wr u17 (.slice none 0 0) (.slice none 0 0) out [] [] ∧ out ++ Z0.drop k = Z0)
    (fun _ u18 _ => n0 - (intOf u18).toNat)
  case atStart => exact ⟨0, [], Nat.zero_le _, rfl, ⟨none, 0, rfl⟩, rows3_nil w5, rfl⟩
  case round =>
    obtain ⟨k, out, hk, rfl, ⟨oa, oc, rfl⟩, hR, hO⟩ := hrel
    have HR : Hid (Rows3 w5 wr (.slice oa out.length oc) (.slice none 0 0) (.slice none 0 0) out [] []) := hR
    have hol : out.length ≤ 1048576 := by
      have e := congrArg List.length hO
      have := RD0.out.2
      simp at e
      omega
    by_cases hkn : k < n0
    · obtain ⟨b, o, y, hA, hD, hy0, hy1, hcell⟩ := RD0.out.1.at RD0.out.2 hkn
      subst hA
      have hcx := hcell wr hR.bel
      have HO : Hid ((out ++ [y]) ++ Z0.drop (k + 1) = Z0) := hid (by rw [hD] at hO; simpa using hO)
      have hki : (k : Int) < (n0 : Int) := by omega
      clear hR hO hD hcell
      go_wp2_with (first
        | (at_builtin; refine appO HR.out.four rfl (.tmp 90) (.tmp 95) rfl _ rfl rfl (by omega) ?_; intro g1 cap1 w6 F6))
      go_roundw
      case rel => exact ⟨k + 1, out ++ [y], by omega, by go_num, slen (by simp), HR.out.of F6, HO.out⟩
      case measure => simp [intOf]; omega
    · have hoe : out = Z0 := by
        have e0 : Z0.drop k = [] := by rw [List.drop_eq_nil_iff]; have := RD0.out.2; omega
        rw [e0] at hO
        simpa using hO
      subst out
      obtain ⟨w6, hw6⟩ : ∃ w6, w6 = wr := ⟨_, rfl⟩
      subst hw6
      have hkd : decide ((k : Int) < (n0 : Int)) = false := by simp; omega
      have hkd2 : decide (k < n0) = false := by simp; omega
      clear hR hO
      go_wp2_with fail
      refine (render_any w5 w6 A1' A2' A3' c1' c2' c3' n1 n2 n3 Sh In St Z0 [] [] T1 nT eT base oa oc (.slice oa Z0.length oc) (.slice none 0 0) (.slice none 0 0) rfl HR.out.bel RD1.out.1 RD2.out.1 RD3.out.1 RD1.out.2 RD2.out.2 RD3.out.2 (by omega) (by omega) (by omega) hb0 hb1 HR.out.four HTOT.out.1 HTOT.out.2.1 HTOT.out.2.2 (by omega) (by omega) (by omega)).mono ?_
      rintro e w7 ⟨ov, sv, nv, ev, rfl, F7⟩
      have R7 := HR.out.of F7
      obtain ⟨oa7, oc7, hov⟩ := R7.four.o.shape
      obtain ⟨na7, nc7, hnv⟩ := R7.four.n.shape
      obtain ⟨ea7, ec7, hev⟩ := R7.four.e.shape
      subst hov hnv hev
      have HR7 : Hid (Rows3 w5 w7 (.slice oa7 T1.length oc7) (.slice na7 nT.length nc7) (.slice ea7 eT.length ec7) T1 nT eT) := R7
      clear F7 R7 HR
      go_wp2_with fail
      refine (term_any tm w7 ht0 ht1).mono ?_
      rintro e w' ⟨hs, hw'⟩
      subst w'
      obtain ⟨y, he, hy⟩ := hs.says
      subst he
      have HY : Hid (y = 44 ∨ y = 125 ∨ y = 93) := hy
      clear hs hy
      go_wp2_with (first
        | (at_builtin; refine appO HR7.out.four rfl (.tmp 111) (.tmp 114) rfl _ rfl rfl (by omega) ?_; intro g8 cap8 w8 F8; have HR8 : Hid (Rows3 w5 w8 (.slice (some ⟨g8, 0, none⟩) (T1.length + 1) cap8) (.slice na7 nT.length nc7) (.slice ea7 eT.length ec7) (T1 ++ [y]) nT eT) := hid (HR7.out.of F8)))
      clear F8 HR7
      obtain ⟨T2, hT2⟩ : ∃ T2, T1 ++ y :: Tl = T2 := ⟨_, rfl⟩
      have HT2 : Hid (T1 ++ y :: Tl = T2) := hT2
      have HL4 : Hid (T2.length = T1.length + 1 + n5) := hid (by rw [← hT2]; have := RD5.out.2; simp; omega)
      have hl4 : T2.length ≤ 16777216 := by have := HL4.out; omega
      have hl5 : 0 < T2.length := by have := HL4.out; omega
      clear hT2
      go_loopw [17, 22] (fun u17 u22 wr => ∃ (k : Nat) (out : List Int), k ≤ n5 ∧ u22 = .int .i64 k ∧ (∃ oa oc, u17 = .slice oa out.length oc) ∧ Rows3 w5 wr u17 (.slice na7 nT.length nc7) (.slice ea7 eT.length ec7) out nT eT ∧ out ++ Tl.drop k = T2)
        (fun _ u22 _ => n5 - (intOf u22).toNat)
      case atStart => exact ⟨0, T1 ++ [y], Nat.zero_le _, rfl, slen (by simp), HR8.out, by rw [← HT2.out]; simp⟩
      case round =>
        obtain ⟨k5, out, hk5, rfl, ⟨oa5, oc5, rfl⟩, hR, hO⟩ := hrel
        have HR : Hid (Rows3 w5 wr (.slice oa5 out.length oc5) (.slice na7 nT.length nc7) (.slice ea7 eT.length ec7) out nT eT) := hR
        have hol : out.length ≤ 16777216 := by
          have e := congrArg List.length hO
          simp at e
          omega
        by_cases hkn5 : k5 < n5
        · obtain ⟨b, o, z, hA, hD, hy0, hy1, hcell⟩ := RD5.out.1.at RD5.out.2 hkn5
          subst hA
          have hcx := hcell wr hR.bel
          have HO : Hid ((out ++ [z]) ++ Tl.drop (k5 + 1) = T2) := hid (by rw [hD] at hO; simpa using hO)
          have hki : (k5 : Int) < (n5 : Int) := by omega
          clear hR hO hD hcell
          go_wp2_with (first
            | (at_builtin; refine appO HR.out.four rfl (.tmp 122) (.tmp 127) rfl _ rfl rfl (by omega) ?_; intro g1 cap1 w9 F9))
          go_roundw
          case rel => exact ⟨k5 + 1, out ++ [z], by omega, by go_num, slen (by simp), HR.out.of F9, HO.out⟩
          case measure => simp [intOf]; omega
        · have hoe : out = T2 := by
            have e0 : Tl.drop k5 = [] := by rw [List.drop_eq_nil_iff]; have := RD5.out.2; omega
            rw [e0] at hO
            simpa using hO
          subst out
          have hkd5 : decide ((k5 : Int) < (n5 : Int)) = false := by simp; omega
          have hkd6 : decide (k5 < n5) = false := by simp; omega
          clear hR hO HR8
          go_wp2_with fail
          go_loopw [19, 20, 24] (fun u19 u20 u24 w9 => ∃ (q : Nat) (ms fs : List Int), q ≤ x ∧ u24 = .int .i64 q ∧ (∃ na nc, u19 = .slice na ms.length nc) ∧ (∃ ea ec, u20 = .slice ea ms.length ec) ∧ Rows3 w5 w9 (.slice oa5 T2.length oc5) u19 u20 T2 ms fs ∧ ms = nT ++ exs (base + (T2.length : Int)) q ∧ fs = eT ++ exs (base + (T2.length : Int) + 1) q)
            (fun _ _ u24 _ => x - (intOf u24).toNat)
          case atStart => exact ⟨0, nT, eT, Nat.zero_le _, rfl, ⟨_, _, rfl⟩, slen HL3.out, HR.out, by simp [exs], by simp [exs]⟩
          case round =>
            obtain ⟨q, ms, fs, hq, rfl, ⟨na, nc, rfl⟩, ⟨ea, ec, rfl⟩, hR, hms, hfs⟩ := hrel
            clear HR
            have HR : Hid (Rows3 w5 wr (.slice oa5 T2.length oc5) (.slice na ms.length nc) (.slice ea ms.length ec) T2 ms fs) := hR
            have hml : ms.length = nT.length + q := by rw [hms]; simp [exs_len]
            have hfl : fs.length = nT.length + q := by rw [hfs]; have := HL3.out; simp [exs_len]; omega
            by_cases hqx : q < x
            · have HM : Hid (ms ++ [base + (T2.length : Int) + 2 * (q : Int)] = nT ++ exs (base + (T2.length : Int)) (q + 1) ∧ fs ++ [base + (T2.length : Int) + 2 * (q : Int) + 1] = eT ++ exs (base + (T2.length : Int) + 1) (q + 1)) := hid ⟨by rw [hms, exs_succ]; simp, by rw [hfs, exs_succ]; simp; omega⟩
              have hqi : (q : Int) < X := by have := HX.out; omega
              have hm2 : ms.length ≤ 1052672 := by omega
              have hf2 : fs.length ≤ 1052672 := by omega
              have HFM : Hid (fs.length = ms.length) := hid (by omega)
              clear hR hms hfs hml hfl
              go_wp2_with (first
                | (at_builtin; refine appN HR.out.four rfl (.tmp 144) (.tmp 146) rfl _ rfl rfl (by omega) ?_; intro g1 cap1 wa F1)
                | (at_builtin; refine appE F1 rfl (.tmp 148) (.tmp 151) rfl _ rfl rfl (by omega) ?_; intro g2 cap2 wb F2))
              go_roundw
              case rel => exact ⟨q + 1, _, _, by omega, by go_num, slen (by simp), slen (by rw [HFM.out]; simp), HR.out.of F2, HM.out.1, HM.out.2⟩
              case measure => simp [intOf]; omega
            · have hqe : q = x := by omega
              subst q
              obtain ⟨wk, hwk⟩ : ∃ wk, wk = wr := ⟨_, rfl⟩
              subst hwk
              have htpos : 0 < T2.length := by omega
              have hfm : fs.length = ms.length := by omega
              obtain ⟨ta, tc, htx, cT⟩ := hR.four.o.cells
              obtain ⟨hta, htc⟩ : oa5 = ta ∧ oc5 = tc := by
                have := htx
                simp at this
                exact this
              subst hta htc
              obtain ⟨tg, htg, cT2⟩ := cT htpos
              subst htg
              obtain ⟨na', nc', hna, cN⟩ := hR.four.n.cells
              obtain ⟨ea', ec', hea, cE⟩ := hR.four.e.cells
              obtain ⟨hna1, hnc1⟩ : na = na' ∧ nc = nc' := by
                have := hna
                simp at this
                exact this
              rw [hfm] at hea cE
              obtain ⟨hea1, hec1⟩ : ea = ea' ∧ ec = ec' := by
                have := hea
                simp at this
                exact this
              subst hna1 hnc1 hea1 hec1
              have CT : Hid (∀ i, i < T2.length → wk.cell? ⟨tg, i, none⟩ = some (.int .u8 (T2.getD i 0))) := cT2
              have CN : Hid (0 < ms.length → ∃ g, na = some ⟨g, 0, none⟩ ∧ ∀ i, i < ms.length → wk.cell? ⟨g, i, none⟩ = some (.int .i32 (ms.getD i 0))) := cN
              have CE : Hid (0 < ms.length → ∃ g, ea = some ⟨g, 0, none⟩ ∧ ∀ i, i < ms.length → wk.cell? ⟨g, i, none⟩ = some (.int .i32 (fs.getD i 0))) := cE
              have B0K : Hid (Below w.heap.size w wk) := hid (B05.out.trans (hR.bel.mono B05.out.size))
              have HMS : Hid (ms = nT ++ exs (base + (T2.length : Int)) x ∧ fs = eT ++ exs (base + (T2.length : Int) + 1) x ∧ ms.length = nT.length + x) := hid ⟨hms, hfs, hml⟩
              have hm2 : ms.length ≤ 1052672 := by omega
              have hxd : decide ((x : Int) < X) = false := by simp; have := HX.out; omega
              clear hR HR hms hfs hml hfl hfm hqx cT cT2 cN cE hna hea htx
              go_wp2_with fail
              go_loopw [26, 27] (fun u26 u27 w5 => ∃ j : Nat, j ≤ ms.length ∧ u27 = .int .i64 j ∧ (∃ ka kc, u26 = .slice ka j kc) ∧ Four wk.heap.size wk (.slice none 0 0) (.slice none 0 0) (.slice none 0 0) w5 (.slice none 0 0) (.slice none 0 0) u26 (.slice none 0 0) [] [] (ints j) [])
                (fun _ u27 _ => ms.length - (intOf u27).toNat)
              case atStart => exact ⟨0, Nat.zero_le _, rfl, ⟨none, 0, rfl⟩, four_nil wk⟩
              case round =>
                obtain ⟨j, hj, rfl, ⟨ka, kc, rfl⟩, hF⟩ := hrel
                have HF : Hid (Four wk.heap.size wk (.slice none 0 0) (.slice none 0 0) (.slice none 0 0) wr (.slice none 0 0) (.slice none 0 0) (.slice ka j kc) (.slice none 0 0) [] [] (ints j) []) := hF
                clear hF
                by_cases hjn : j < ms.length
                · have hji : (j : Int) < (ms.length : Int) := by omega
                  go_wp2_with (first
                    | (at_builtin; refine appN HF.out rfl (.tmp 159) (.tmp 162) rfl _ rfl rfl (by rw [ints_len]; omega) ?_; intro g1 cap1 w5 F5))
                  go_roundw
                  case rel => exact ⟨j + 1, by omega, by go_num, slen (by rw [ints_len]), by rw [ints_succ]; exact F5⟩
                  case measure => simp [intOf]; omega
                · have hje : j = ms.length := by omega
                  subst j
                  obtain ⟨w6, hw6⟩ : ∃ w6, w6 = wr := ⟨_, rfl⟩
                  subst hw6
                  have bK : Below wk.heap.size wk w6 := HF.out.kept.below (Below.refl _ _) (Nat.le_refl _) (fun x h => (by cases h)) (fun x h => (by cases h)) (fun x h => (by cases h))
                  have hkc : ms.length ≤ kc := capLe HF.out.n.own
                  obtain ⟨kb, hkb⟩ : ∃ kb, 0 < ms.length → ka = some ⟨kb, 0, none⟩ ∧ ∀ i, i < ms.length → w6.cell? ⟨kb, i, none⟩ = some (.int .i32 i) := by
                    obtain ⟨ka', kc', hke, cK⟩ := HF.out.n.cells
                    have hke' : ka = ka' := by
                      have := hke
                      simp at this
                      exact this.1
                    subst hke'
                    rw [ints_len] at cK
                    by_cases h0 : 0 < ms.length
                    · obtain ⟨g, hg, hc⟩ := cK h0
                      exact ⟨g, fun _ => ⟨hg, fun i hi => by rw [hc i hi, ints_get hi]⟩⟩
                    · exact ⟨0, fun h => absurd h h0⟩
                  have HKB : Hid (0 < ms.length → ka = some ⟨kb, 0, none⟩ ∧ ∀ i, i < ms.length → w6.cell? ⟨kb, i, none⟩ = some (.int .i32 i)) := hkb
                  have BK : Hid (Below wk.heap.size wk w6) := bK
                  clear HF bK hkb hjn hj
                  go_wp2_with fail
                  refine (newNoted_any na ea nc ec ms.length (fun i => ms.getD i 0) (fun i => fs.getD i 0) w6 (by omega) (fun h0 => ?_) (fun h0 => ?_)).mono ?_
                  · obtain ⟨g, hg, hc⟩ := CN.out h0
                    exact ⟨g, 0, hg, fun i hi => zero_cell (cell_later BK.out (hc i hi))⟩
                  · obtain ⟨g, hg, hc⟩ := CE.out h0
                    exact ⟨g, 0, hg, fun i hi => zero_cell (cell_later BK.out (hc i hi))⟩
                  rintro e w7 ⟨cv, rfl, hcv, hv, b7⟩
                  have H7 : Hid (w7.cell? ⟨w6.heap.size, 11, none⟩ = some cv ∧ (∀ i, i < ms.length → NoteV w7 cv i (ms.getD i 0) (fs.getD i 0)) ∧ Below w6.heap.size w6 w7) := hid ⟨hcv, hv, b7⟩
                  clear hcv hv b7
                  have CT7 : Hid (∀ i, i < T2.length → w7.cell? ⟨tg, 0 + i, none⟩ = some (.int .u8 (T2.getD i 0))) := hid (fun i hi => zero_cell (cell_later H7.out.2.2 (cell_later BK.out (CT.out i hi))))
                  have CK7 : Hid (∀ i, i < ms.length → w7.cell? ⟨kb, i, none⟩ = some (.int .i32 i)) := hid (fun i hi => cell_later H7.out.2.2 ((HKB.out (by omega)).2 i hi))
                  have B7 : Hid (Below w.heap.size w w7) := hid (B0K.out.trans ((BK.out.trans (H7.out.2.2.mono BK.out.size)).mono B0K.out.size))
                  have htext : T2 = Z0 ++ rend In St Sh [] ++ y :: Tl := by rw [HTOT.out.1]; exact HT2.out.symm
                  have hns : ms = (notes In St Sh [] Z0.length).map (fun a => base + (a.1 : Int)) ++ (List.range x).map (fun i : Nat => base + (T2.length : Int) + 2 * (i : Int)) := by rw [HTOT.out.2.1]; exact HMS.out.1
                  have hes : fs = (notes In St Sh [] Z0.length).map (fun a => base + (a.2 : Int)) ++ (List.range x).map (fun i : Nat => base + (T2.length : Int) + 2 * (i : Int) + 1) := by
                    rw [HTOT.out.2.2, HMS.out.2.1]
                    simp [exs]
                    intros
                    omega
                  have SB : Hid (∀ j, j < ms.length → 0 ≤ ms.getD j 0 ∧ ms.getD j 0 ≤ 2147483647) := hid (small6 hb0 hb1 hx2 (by omega) htext hns)
                  obtain ⟨m, hm⟩ := reach6 HY.out htext hns hes
                  have ee1 : Z0.length + (rend In St Sh []).length = T1.length := by rw [← HTOT.out.1]; simp
                  have ee2 : (notes In St Sh [] Z0.length).length = nT.length := by rw [← HTOT.out.2.1]; simp
                  rw [ee1, ee2, RD0.out.2] at hm
                  have Z : Hid (Calls Try.prog 20 #[.pointer (some ⟨w6.heap.size, 0, none⟩), .slice (some ⟨tg, 0, none⟩) T2.length oc5, .int .i64 n0, .int .i64 base, .slice ka ms.length kc] w7 fun e w' =>
                      ∃ (ao' : Option Addr) (r kr : Nat), e = .returned (.tuple #[.int .i64 T1.length, .slice ao' r kr]) ∧ r ≤ kr ∧ r + nT.length = ms.length ∧ (0 < r → ao' = some ⟨kb, nT.length, none⟩) ∧ Below w7.heap.size w7 w') :=
                    hid (zskip_any w6.heap.size tg 0 T2.length oc5 n0 ms.length kb kc T1.length nT.length 0 m ms.length base ka cv (fun i => T2.getD i 0) (fun i => ms.getD i 0) (fun i => fs.getD i 0) w7 (by omega) (by omega) hb0 hb1 H7.out.1 H7.out.2.1 CK7.out CT7.out SB.out hm hkc (by omega) (fun h0 => (HKB.out h0).1))
                  clear hm htext hns hes ee1 ee2 CT CN CE B0K
                  go_wp2_with fail
                  refine Z.out.mono ?_
                  rintro e w9 ⟨ao', r', kr, rfl, g1, g2, g3, g4⟩
                  have hr : r' = x := by have := HMS.out.2.2; omega
                  subst r'
                  have G : Hid ((0 < x → ao' = some ⟨kb, nT.length, none⟩) ∧ Below w.heap.size w w9) := hid ⟨g3, B7.out.trans (g4.mono B7.out.size)⟩
                  have C9 : Hid (∀ q, q < x → w9.cell? ⟨kb, nT.length + q, none⟩ = some (.int .i32 ((nT.length : Int) + (q : Int)))) := hid (fun q hq => by
                    have := cell_later g4 (CK7.out (nT.length + q) (by have := HMS.out.2.2; omega))
                    simpa using this)
                  have yr : ((x : Int) != X) = false := by simp; exact HX.out.symm
                  clear g2 g3 g4 Z
                  go_wp2_with fail
                  go_loopw [31] (fun u31 wr => ∃ q : Nat, q ≤ x ∧ u31 = .int .i64 q ∧ wr = w9) (fun u31 _ => x - (intOf u31).toNat)
                  case atStart => exact ⟨0, Nat.zero_le _, rfl, rfl⟩
                  case round =>
                    obtain ⟨q, hq, rfl, hw⟩ := hrel
                    subst wr
                    by_cases hqx : q < x
                    · have hqi : (q : Int) < X := by have := HX.out; omega
                      have hao := G.out.1 (by omega)
                      subst hao
                      have hcq := C9.out q hqx
                      have hqx' : (q : Int) < (x : Int) := by omega
                      go_wp2
                      go_roundw
                      case rel => exact ⟨q + 1, by omega, by go_num, trivial⟩
                      case measure => simp [intOf]; omega
                    · have hqi : ¬ (q : Int) < X := by have := HX.out; omega
                      go_wp2
                      go_ret
                      exact ⟨rfl, G.out.2⟩

end Go.Proofs.Qxb6000404a
