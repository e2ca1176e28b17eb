import Derived.Test.Qxb6000404aRows4
namespace Go.Proofs.Qxb6000404a
open Go.RowKit

theorem walks_bytes (A1 A2 A3 : Option Addr) (n1 n2 n3 c1 c2 c3 : Nat) (base : Int) (w : World) (h : 1048576 < n1 + n2 + n3 ∨ base < 0 ∨ 1048576 < base) :
    Calls Try.prog 7 #[.slice A1 n1 c1, .slice A2 n2 c2, .slice A3 n3 c3, .int .i64 base] w fun e w' => e = .returned (.bool true) ∧ Below w.heap.size w w' := by
  by_cases h1 : 1048576 < n1 + n2 + n3
  · clear h
    go_enter Try.func7, Try.ntmps7
    go_wp2_with (go_at_call 21; refine (bytes21_no _ _ _ _ _ _ _ _ _ _ _ h1).mono ?_; rintro e w' ⟨rfl, hw'⟩; subst w')
    go_ret
    exact ⟨rfl, Below.refl _ _⟩
  · have h2 : n1 + n2 + n3 ≤ 1048576 := by omega
    by_cases h3 : base < 0
    · clear h
      go_enter Try.func7, Try.ntmps7
      go_wp2_with (go_at_call 21; refine (bytes21_yes _ _ _ _ _ _ _ _ _ _ _ h2).mono ?_; rintro e w' ⟨rfl, hw'⟩; subst w')
      go_ret
      exact ⟨rfl, Below.refl _ _⟩
    · have h4 : 1048576 < base := by omega
      clear h
      go_enter Try.func7, Try.ntmps7
      go_wp2_with (go_at_call 21; refine (bytes21_yes _ _ _ _ _ _ _ _ _ _ _ h2).mono ?_; rintro e w' ⟨rfl, hw'⟩; subst w')
      go_ret
      exact ⟨rfl, Below.refl _ _⟩

set_option maxRecDepth 100000 in
set_option maxHeartbeats 4000000 in
theorem walks_main (A1 A2 A3 : Option Addr) (n1 n2 n3 c1 c2 c3 : Nat) (Sh In St : List Int) (base : Int) (w : World) (h : n1 + n2 + n3 ≤ 1048576) (hb0 : 0 ≤ base) (hb1 : base ≤ 1048576)
    (r1 : Reads w A1 c1 Sh) (r2 : Reads w A2 c2 In) (r3 : Reads w A3 c3 St) (e1 : Sh.length = n1) (e2 : In.length = n2) (e3 : St.length = n3) :
    Calls Try.prog 7 #[.slice A1 n1 c1, .slice A2 n2 c2, .slice A3 n3 c3, .int .i64 base] w fun e w' => e = .returned (.bool true) ∧ Below w.heap.size w w' := by
  have HR1 : Hid (Reads w A1 c1 Sh ∧ Sh.length = n1) := ⟨r1, e1⟩
  have HR2 : Hid (Reads w A2 c2 In ∧ In.length = n2) := ⟨r2, e2⟩
  have HR3 : Hid (Reads w A3 c3 St ∧ St.length = n3) := ⟨r3, e3⟩
  clear r1 r2 r3 e1 e2 e3
  go_enter Try.func7, Try.ntmps7
  go_wp2_with (go_at_call 21; refine (bytes21_yes _ _ _ _ _ _ _ _ _ _ _ h).mono ?_; rintro e w' ⟨rfl, hw'⟩; subst w')
  refine (fits_any w A1 A2 A3 c1 c2 c3 n1 n2 n3 Sh HR1.out.2 (by omega) (by omega) (by omega) (HR1.out.1.fits HR1.out.2) HR1.out.1.byte).mono ?_
  rintro e w' ⟨hs, hw'⟩
  subst w'
  rcases hs.says with rfl | ⟨rfl, hfit⟩
  · clear hs
    go_wp2
    go_ret
    exact ⟨rfl, Below.refl _ _⟩
  have HFIT : Hid (Fits Sh n2 n3) := hfit
  clear hs hfit
  go_wp2_with fail
  refine (clone_reads w A1 c1 n1 Sh HR1.out.1 HR1.out.2 (by omega)).mono ?_
  rintro e w1 ⟨A1', c1', rfl, rd1, ad1, b1⟩
  have HS1 : Hid (Reads w1 A1' c1' Sh ∧ (A1' = none ∨ ∃ g, A1' = some ⟨g, 0, none⟩) ∧ Below w.heap.size w w1) := ⟨rd1, ad1, b1⟩
  clear rd1 ad1 b1
  go_wp2_with fail
  refine (clone_reads w1 A2 c2 n2 In (HR2.out.1.keep HS1.out.2.2) HR2.out.2 (by omega)).mono ?_
  rintro e w2 ⟨A2', c2', rfl, rd2, _, b2⟩
  have HS2 : Hid (Reads w2 A2' c2' In ∧ Below w1.heap.size w1 w2) := ⟨rd2, b2⟩
  clear rd2 b2
  go_wp2_with fail
  refine (clone_reads w2 A3 c3 n3 St ((HR3.out.1.keep HS1.out.2.2).keep HS2.out.2) HR3.out.2 (by omega)).mono ?_
  rintro e w3 ⟨A3', c3', rfl, rd3, _, b3⟩
  have B03 : Hid (Below w.heap.size w w3) := hid (HS1.out.2.2.trans ((HS2.out.2.mono HS1.out.2.2.size).trans (b3.mono (Nat.le_trans HS1.out.2.2.size HS2.out.2.size))) : Below w.heap.size w w3)
  have RD1 : Hid (Reads w3 A1' c1' Sh ∧ Sh.length = n1) := hid ⟨(HS1.out.1.keep HS2.out.2).keep b3, HR1.out.2⟩
  have RD2 : Hid (Reads w3 A2' c2' In ∧ In.length = n2) := hid ⟨HS2.out.1.keep b3, HR2.out.2⟩
  have RD3 : Hid (Reads w3 A3' c3' St ∧ St.length = n3) := hid ⟨rd3, HR3.out.2⟩
  have AD1 := hid HS1.out.2.1
  clear HR1 HR2 HR3 HS1 HS2 rd3 b3
  -- the plain totals
  obtain ⟨total, htot⟩ : ∃ total, total = lst In St (pcs Sh []) := ⟨_, rfl⟩
  obtain ⟨nT, hnT⟩ : ∃ nT, nT = (lnotes In St (pcs Sh []) 0).map (fun a => base + (a.1 : Int)) := ⟨_, rfl⟩
  obtain ⟨eT, heT⟩ : ∃ eT, eT = (lnotes In St (pcs Sh []) 0).map (fun a => base + (a.2 : Int)) := ⟨_, rfl⟩
  obtain ⟨vT, hvT⟩ : ∃ vT, vT = vends In St (pcs Sh []) 0 := ⟨_, rfl⟩
  have hl1 : total.length ≤ 8388608 := by
    have := lst_len In St Sh []
    have f3 := HFIT.out.f3
    have f6 := HFIT.out.f6
    rw [← RD3.out.2] at f3
    rw [← RD2.out.2] at f6
    have := RD1.out.2
    rw [htot]
    simp only [cn, Nat.zero_add, List.length_nil] at *
    omega
  have hl2 : nT.length ≤ 1048576 := by
    have := lnotes_len In St Sh [] 0
    have := cn_le 6 Sh
    have := RD1.out.2
    rw [hnT]
    simp [cn] at *
    omega
  have hl3 : eT.length = nT.length := by rw [hnT, heT]; simp
  have hl4 : vT.length ≤ 1048577 := by
    have := vends_len In St Sh [] 0
    have := RD1.out.2
    rw [hvT]
    omega
  have HLEFT : Hid (Left In St total nT eT vT base (pcs Sh []) [] [] [] []) := hid ⟨by simp [htot], by simp [hnT], by simp [heT], by simp [hvT]⟩
  have HTOT : Hid (total = lst In St (pcs Sh []) ∧ nT = (lnotes In St (pcs Sh []) 0).map (fun a => base + (a.1 : Int)) ∧ eT = (lnotes In St (pcs Sh []) 0).map (fun a => base + (a.2 : Int)) ∧ vT = vends In St (pcs Sh []) 0) := hid ⟨htot, hnT, heT, hvT⟩
  clear htot hnT heT hvT
  go_wp2_with fail
  go_loopw [9, 10, 11, 12, 13, 14] (fun u9 u10 u11 u12 u13 u14 wr => ∃ (k a : Nat) (P : List (List Int)) (out ns es vs : List Int), k ≤ n1 + 1 ∧ u14 = .int .i64 k ∧ u13 = .int .i64 a ∧ (∃ oa oc, u9 = .slice oa out.length oc) ∧ Rows4 w3 wr u9 u10 u11 u12 out ns es vs ∧ At7 Sh n1 a k P ∧ Left In St total nT eT vT base P out ns es vs)
    (fun _ _ _ _ _ u14 _ => n1 + 1 - (intOf u14).toNat)
  case atStart => exact ⟨0, 0, pcs Sh [], [], [], [], [], Nat.zero_le _, rfl, rfl, ⟨none, 0, rfl⟩, rows4_nil w3, ⟨Nat.le_refl _, .inl ⟨Nat.zero_le _, by simp⟩⟩, HLEFT.out⟩
  case round =>
    obtain ⟨k, a, P, out, ns, es, vs, hk, rfl, rfl, ⟨oa, oc, rfl⟩, hR, hA, hL⟩ := hrel
    have HR : Hid (Rows4 w3 wr (.slice oa out.length oc) u10 u11 u12 out ns es vs) := hR
    have hlen1 := congrArg List.length hL.t
    have hlen2 := congrArg List.length hL.n
    have hlen3 := congrArg List.length hL.e
    have hlen4 := congrArg List.length hL.v
    simp only [List.length_append, List.length_map] at hlen1 hlen2 hlen3 hlen4
    have hak := hA.ak
    rcases hA.at' with ⟨hkn, hP⟩ | ⟨hkn, hP⟩
    · by_cases hsplit : k < n1 ∧ Sh.getD k 0 ≠ 255
      · -- the byte belongs to the piece
        obtain ⟨hlt, hne⟩ := hsplit
        obtain ⟨b, o, x, hAe, hD, hx0, hx1, hcell⟩ := RD1.out.1.at RD1.out.2 hlt
        subst hAe
        have hcx := hcell wr hR.rows.bel
        have hxe : x = Sh.getD k 0 := by
          have h2 : k < Sh.length := by have := RD1.out.2; omega
          rw [List.drop_eq_getElem_cons h2] at hD
          simp [List.getD, h2, (List.cons.inj hD).1]
        rw [← hxe] at hne
        have HA : Hid (At7 Sh n1 a (k + 1) P) := by
          refine ⟨by omega, .inl ⟨by omega, ?_⟩⟩
          rw [hP, hD]
          simp only [pcs]
          rw [if_neg hne]
          have h2 : k < Sh.length := by have := RD1.out.2; omega
          have e : (Sh.drop a).take (k + 1 - a) = (Sh.drop a).take (k - a) ++ [x] := by
            rw [show k + 1 - a = (k - a) + 1 by omega, List.take_add_one]
            have : (Sh.drop a)[k - a]? = some x := by
              rw [List.getElem?_drop, show a + (k - a) = k by omega]
              rw [List.drop_eq_getElem_cons h2] at hD
              simp [h2, (List.cons.inj hD).1]
            rw [this]; rfl
          rw [e]
        have HL : Hid (Left In St total nT eT vT base P out ns es vs) := hL
        have y1 : ((k : Int) == (n1 : Int)) = false := by simp; omega
        have y2 : (x == 255) = false := by simp [hne]
        have hki : (k : Int) < (n1 : Int) := by omega
        have hki2 : (k : Int) ≤ (n1 : Int) := by omega
        clear hR hA hL hlen1 hlen2 hlen3 hlen4 hP hD hcell hne hxe
        go_wp2
        go_roundw
        case rel => exact ⟨k + 1, a, P, out, ns, es, vs, by omega, by go_num, rfl, ⟨_, _, rfl⟩, HR.out, HA.out, HL.out⟩
        case measure => simp [intOf]; omega
      · -- the piece ends here
        have hc1 : n1 ≤ c1' := by have := RD1.out.1.le; have := RD1.out.2; omega
        obtain ⟨cur, hcur⟩ : ∃ cur, cur = (Sh.drop a).take (k - a) := ⟨_, rfl⟩
        have hcl : cur.length = k - a := by rw [hcur]; have := RD1.out.2; simp; omega
        have HCL : Hid (cur.length = k - a) := hcl
        rw [← hcur] at hP
        by_cases hend : k = n1
        · subst k
          have hPe : P = [cur] := by
            rw [hP, List.drop_eq_nil_iff.mpr (by have := RD1.out.2; omega)]; rfl
          subst hPe
          obtain ⟨o2, ho2⟩ : ∃ o2, out ++ rend In St cur [] = o2 := ⟨_, rfl⟩
          obtain ⟨m2, hm2⟩ : ∃ m2, ns ++ (notes In St cur [] out.length).map (fun a => base + (a.1 : Int)) = m2 := ⟨_, rfl⟩
          obtain ⟨f2, hf2⟩ : ∃ f2, es ++ (notes In St cur [] out.length).map (fun a => base + (a.2 : Int)) = f2 := ⟨_, rfl⟩
          have H2 : Hid (out ++ rend In St cur [] = o2 ∧ ns ++ (notes In St cur [] out.length).map (fun a => base + (a.1 : Int)) = m2 ∧ es ++ (notes In St cur [] out.length).map (fun a => base + (a.2 : Int)) = f2) := hid ⟨ho2, hm2, hf2⟩
          have hL2 := hL.step (c := 93) (by simp)
          rw [ho2, hm2, hf2] at hL2
          have HL : Hid (Left In St total nT eT vT base [] (o2 ++ [93]) m2 f2 (vs ++ [(o2.length : Int)])) := hL2
          have ll1 := congrArg List.length hL2.t
          have ll2 := congrArg List.length hL2.n
          have ll3 := congrArg List.length hL2.e
          simp only [List.length_append, List.length_map, List.length_cons, List.length_nil] at ll1 ll2 ll3
          have q1 : o2.length ≤ 8388608 := by omega
          have q2 : m2.length ≤ 1048576 := by omega
          have q3 : f2.length ≤ 1048576 := by omega
          have q4 : vs.length ≤ 1048577 := by omega
          have q5 : out.length ≤ 8388608 := by omega
          clear hL hL2 ll1 ll2 ll3 ho2 hm2 hf2
          have HA : Hid (At7 Sh n1 (n1 + 1) (n1 + 1) []) := ⟨Nat.le_refl _, .inr ⟨rfl, rfl⟩⟩
          rcases AD1.out with hn | ⟨g, hg⟩
          · subst hn
            have hca : c1' = a := by have := RD1.out.1.nil rfl; have := RD1.out.2; omega
            have hz : c1' ≤ n1 := by omega
            have HP : Hid (Reads w3 none 0 cur) := by rw [hcur]; exact reads_nil RD1.out.1 _ _
            clear hR hA hlen1 hlen2 hlen3 hlen4 hP hcl hcur hsplit
            subst hca
            have HCL0 : Hid (cur.length = 0) := hid (by have := HCL.out; omega)
            clear HCL
            have HCL := HCL0
            go_wp2_with fail
            refine (render_any w3 wr none A2' A3' 0 c2' c3' 0 n2 n3 cur In St out ns es o2 m2 f2 base oa oc (.slice oa out.length oc) u10 u11 rfl HR.out.rows.bel HP.out RD2.out.1 RD3.out.1 HCL.out RD2.out.2 RD3.out.2 (by omega) (by omega) (by omega) hb0 hb1 HR.out.rows.four H2.out.1 H2.out.2.1 H2.out.2.2 (by omega) (by omega) (by omega)).mono ?_
            rintro e w4 ⟨ov', sv', nv', ev', rfl, F4⟩
            have R4 := HR.out.of F4
            obtain ⟨ao', ac', hov⟩ := R4.rows.four.o.shape
            subst hov
            have HR4 : Hid (Rows4 w3 w4 (.slice ao' o2.length ac') nv' ev' u12 o2 m2 f2 vs) := R4
            clear F4 R4 HR HP H2
            go_wp2_with (first
              | (at_builtin; refine appV HR4.out rfl (.tmp 86) (.tmp 89) rfl _ rfl rfl (by omega) ?_; intro g1 cap1 w5 R5)
              | (at_builtin; refine appO R5.rows.four rfl (.tmp 95) (.tmp 96) rfl _ rfl rfl (by omega) ?_; intro g2 cap2 w6 F6))
            go_roundw
            case rel => exact ⟨n1 + 1, n1 + 1, [], o2 ++ [93], m2, f2, vs ++ [(o2.length : Int)], by omega, by go_num, by go_num, slen (by simp), R5.of F6, HA.out, HL.out⟩
            case measure => simp [intOf]; first | done | omega
          · subst hg
            have HP' : Hid (Reads w3 (some ⟨g, a, none⟩) (c1' - a) cur) := by rw [hcur]; exact RD1.out.1.piece (by have := RD1.out.2; omega)
            by_cases hca : c1' = a
            · have HP : Hid (Reads w3 (some ⟨g, 0, none⟩) 0 cur) := by
                have h0 : cur = [] := List.length_eq_zero_iff.mp (by omega)
                refine ⟨fun h => (by cases h), by simp [h0], fun x hx i hi => ?_, by simp [h0]⟩
                rw [h0] at hi
                cases hi
              clear hR hA hlen1 hlen2 hlen3 hlen4 hP hcl hcur hsplit HP'
              subst hca
              have HCL0 : Hid (cur.length = 0) := hid (by have := HCL.out; omega)
              clear HCL
              have HCL := HCL0
              go_wp2_with fail
              refine (render_any w3 wr (some ⟨g, 0, none⟩) A2' A3' 0 c2' c3' 0 n2 n3 cur In St out ns es o2 m2 f2 base oa oc (.slice oa out.length oc) u10 u11 rfl HR.out.rows.bel HP.out RD2.out.1 RD3.out.1 HCL.out RD2.out.2 RD3.out.2 (by omega) (by omega) (by omega) hb0 hb1 HR.out.rows.four H2.out.1 H2.out.2.1 H2.out.2.2 (by omega) (by omega) (by omega)).mono ?_
              rintro e w4 ⟨ov', sv', nv', ev', rfl, F4⟩
              have R4 := HR.out.of F4
              obtain ⟨ao', ac', hov⟩ := R4.rows.four.o.shape
              subst hov
              have HR4 : Hid (Rows4 w3 w4 (.slice ao' o2.length ac') nv' ev' u12 o2 m2 f2 vs) := R4
              clear F4 R4 HR HP H2
              go_wp2_with (first
                | (at_builtin; refine appV HR4.out rfl (.tmp 86) (.tmp 89) rfl _ rfl rfl (by omega) ?_; intro g1 cap1 w5 R5)
                | (at_builtin; refine appO R5.rows.four rfl (.tmp 95) (.tmp 96) rfl _ rfl rfl (by omega) ?_; intro g2 cap2 w6 F6))
              go_roundw
              case rel => exact ⟨n1 + 1, n1 + 1, [], o2 ++ [93], m2, f2, vs ++ [(o2.length : Int)], by omega, by go_num, by go_num, slen (by simp), R5.of F6, HA.out, HL.out⟩
              case measure => simp [intOf]; first | done | omega
            · have HP := HP'
              clear hR hA hlen1 hlen2 hlen3 hlen4 hP hcl hcur hsplit HP'
              go_wp2_with fail
              refine (render_any w3 wr (some ⟨g, a, none⟩) A2' A3' (c1' - a) c2' c3' (n1 - a) n2 n3 cur In St out ns es o2 m2 f2 base oa oc (.slice oa out.length oc) u10 u11 rfl HR.out.rows.bel HP.out RD2.out.1 RD3.out.1 HCL.out RD2.out.2 RD3.out.2 (by omega) (by omega) (by omega) hb0 hb1 HR.out.rows.four H2.out.1 H2.out.2.1 H2.out.2.2 (by omega) (by omega) (by omega)).mono ?_
              rintro e w4 ⟨ov', sv', nv', ev', rfl, F4⟩
              have R4 := HR.out.of F4
              obtain ⟨ao', ac', hov⟩ := R4.rows.four.o.shape
              subst hov
              have HR4 : Hid (Rows4 w3 w4 (.slice ao' o2.length ac') nv' ev' u12 o2 m2 f2 vs) := R4
              clear F4 R4 HR HP H2
              go_wp2_with (first
                | (at_builtin; refine appV HR4.out rfl (.tmp 86) (.tmp 89) rfl _ rfl rfl (by omega) ?_; intro g1 cap1 w5 R5)
                | (at_builtin; refine appO R5.rows.four rfl (.tmp 95) (.tmp 96) rfl _ rfl rfl (by omega) ?_; intro g2 cap2 w6 F6))
              go_roundw
              case rel => exact ⟨n1 + 1, n1 + 1, [], o2 ++ [93], m2, f2, vs ++ [(o2.length : Int)], by omega, by go_num, by go_num, slen (by simp), R5.of F6, HA.out, HL.out⟩
              case measure => simp [intOf]; first | done | omega
        · have hlt : k < n1 := by omega
          obtain ⟨b, o, x, hAe, hD, hx0, hx1, hcell⟩ := RD1.out.1.at RD1.out.2 hlt
          have h2 : k < Sh.length := by have := RD1.out.2; omega
          have hx : x = 255 := by
            have e := hD
            rw [List.drop_eq_getElem_cons h2] at e
            have e2 : Sh.getD k 0 = x := by simp [List.getD, h2, (List.cons.inj e).1]
            rw [← e2]
            exact Classical.byContradiction fun hh => hsplit ⟨hlt, hh⟩
          subst hx
          have hPe : P = cur :: pcs (Sh.drop (k + 1)) [] := by
            rw [hP, hD]; simp [pcs]
          subst hPe
          obtain ⟨o2, ho2⟩ : ∃ o2, out ++ rend In St cur [] = o2 := ⟨_, rfl⟩
          obtain ⟨m2, hm2⟩ : ∃ m2, ns ++ (notes In St cur [] out.length).map (fun a => base + (a.1 : Int)) = m2 := ⟨_, rfl⟩
          obtain ⟨f2, hf2⟩ : ∃ f2, es ++ (notes In St cur [] out.length).map (fun a => base + (a.2 : Int)) = f2 := ⟨_, rfl⟩
          have H2 : Hid (out ++ rend In St cur [] = o2 ∧ ns ++ (notes In St cur [] out.length).map (fun a => base + (a.1 : Int)) = m2 ∧ es ++ (notes In St cur [] out.length).map (fun a => base + (a.2 : Int)) = f2) := hid ⟨ho2, hm2, hf2⟩
          have hL2 := hL.step (c := 44) (by simp [pcs_ne])
          rw [ho2, hm2, hf2] at hL2
          have HL : Hid (Left In St total nT eT vT base (pcs (Sh.drop (k + 1)) []) (o2 ++ [44]) m2 f2 (vs ++ [(o2.length : Int)])) := hL2
          have ll1 := congrArg List.length hL2.t
          have ll2 := congrArg List.length hL2.n
          have ll3 := congrArg List.length hL2.e
          simp only [List.length_append, List.length_map, List.length_cons, List.length_nil] at ll1 ll2 ll3
          have q1 : o2.length ≤ 8388608 := by omega
          have q2 : m2.length ≤ 1048576 := by omega
          have q3 : f2.length ≤ 1048576 := by omega
          have q4 : vs.length ≤ 1048577 := by omega
          have q5 : out.length ≤ 8388608 := by omega
          clear hL hL2 ll1 ll2 ll3 ho2 hm2 hf2
          have HA : Hid (At7 Sh n1 (k + 1) (k + 1) (pcs (Sh.drop (k + 1)) [])) := ⟨Nat.le_refl _, .inl ⟨by omega, by simp⟩⟩
          have hcx := hcell wr hR.rows.bel
          rcases AD1.out with hn | ⟨g, hg⟩
          · subst hn
            cases hAe
          · subst hg
            cases hAe
            rw [Nat.zero_add] at hcx
            have HP : Hid (Reads w3 (some ⟨b, a, none⟩) (c1' - a) cur) := by rw [hcur]; exact RD1.out.1.piece (by have := RD1.out.2; omega)
            have hca : ¬ c1' = a := by omega
            have y1 : ((k : Int) == (n1 : Int)) = false := by simp; omega
            have hki : (k : Int) < (n1 : Int) := by omega
            clear hR hA hlen1 hlen2 hlen3 hlen4 hP hcl hcur hsplit hD hcell h2 hend
            go_wp2_with fail
            refine (render_any w3 wr (some ⟨b, a, none⟩) A2' A3' (c1' - a) c2' c3' (k - a) n2 n3 cur In St out ns es o2 m2 f2 base oa oc (.slice oa out.length oc) u10 u11 rfl HR.out.rows.bel HP.out RD2.out.1 RD3.out.1 HCL.out RD2.out.2 RD3.out.2 (by omega) (by omega) (by omega) hb0 hb1 HR.out.rows.four H2.out.1 H2.out.2.1 H2.out.2.2 (by omega) (by omega) (by omega)).mono ?_
            rintro e w4 ⟨ov', sv', nv', ev', rfl, F4⟩
            have R4 := HR.out.of F4
            obtain ⟨ao', ac', hov⟩ := R4.rows.four.o.shape
            subst hov
            have HR4 : Hid (Rows4 w3 w4 (.slice ao' o2.length ac') nv' ev' u12 o2 m2 f2 vs) := R4
            clear F4 R4 HR HP H2
            go_wp2_with (first
              | (at_builtin; refine appV HR4.out rfl (.tmp 86) (.tmp 89) rfl _ rfl rfl (by omega) ?_; intro g1 cap1 w5 R5)
              | (at_builtin; refine appO R5.rows.four rfl (.tmp 98) (.tmp 99) rfl _ rfl rfl (by omega) ?_; intro g2 cap2 w6 F6))
            go_roundw
            case rel => exact ⟨k + 1, k + 1, (pcs (Sh.drop (k + 1)) []), o2 ++ [44], m2, f2, vs ++ [(o2.length : Int)], by omega, by go_num, by go_num, slen (by simp), R5.of F6, HA.out, HL.out⟩
            case measure => simp [intOf]; first | done | omega
    · -- the loop's end
      subst hP
      have hto : out = total := by simpa [lst] using hL.t
      have hno : ns = nT := by simpa [lnotes] using hL.n
      have heo : es = eT := by simpa [lnotes] using hL.e
      have hvo : vs = vT := by simpa [vends] using hL.v
      subst out ns es vs
      obtain ⟨wk, hwk⟩ : ∃ wk, wk = wr := ⟨_, rfl⟩
      subst hwk
      have htpos : 0 < total.length := by
        rw [HTOT.out.1]
        cases hc : pcs Sh [] with
        | nil => exact absurd hc (pcs_ne _ _)
        | cons p ps => simp [lst]; omega
      obtain ⟨ta, tc, htx, cT⟩ := hR.rows.four.o.cells
      obtain ⟨hta, htc⟩ : oa = ta ∧ oc = tc := by
        have := htx
        simp at this
        exact this
      subst hta htc
      obtain ⟨tg, htg, cT2⟩ := cT htpos
      subst htg
      obtain ⟨na, nc, hna, cN⟩ := hR.rows.four.n.cells
      obtain ⟨ea, ec, hea, cE⟩ := hR.rows.four.e.cells
      obtain ⟨va, vc, hva, cV⟩ := hR.v.cells
      rw [hl3] at hea cE
      subst hna hea hva
      have CT : Hid (∀ i, i < total.length → wk.cell? ⟨tg, i, none⟩ = some (.int .u8 (total.getD i 0))) := cT2
      have CN : Hid (0 < nT.length → ∃ g, na = some ⟨g, 0, none⟩ ∧ ∀ i, i < nT.length → wk.cell? ⟨g, i, none⟩ = some (.int .i32 (nT.getD i 0))) := cN
      have CE : Hid (0 < nT.length → ∃ g, ea = some ⟨g, 0, none⟩ ∧ ∀ i, i < nT.length → wk.cell? ⟨g, i, none⟩ = some (.int .i32 (eT.getD i 0))) := cE
      have CV : Hid (0 < vT.length → ∃ g, va = some ⟨g, 0, none⟩ ∧ ∀ i, i < vT.length → wk.cell? ⟨g, i, none⟩ = some (.int .i64 (vT.getD i 0))) := cV
      have B0K : Hid (Below w.heap.size w wk) := hid (B03.out.trans (hR.rows.bel.mono B03.out.size))
      have hkn' : (n1 : Int) < (k : Int) := by omega
      clear hR hA hL hlen1 hlen2 hlen3 hlen4 HR cT cT2 cN cE cV htx HLEFT
      have hkd : decide ((k : Int) ≤ (n1 : Int)) = false := by simp; omega
      have hkd2 : decide (k ≤ n1) = false := by simp; omega
      clear hkn
      go_wp2_with fail
      go_loopw [15, 16] (fun u15 u16 w5 => ∃ j : Nat, j ≤ nT.length ∧ u16 = .int .i64 j ∧ (∃ ka kc, u15 = .slice ka j kc) ∧ Four wk.heap.size wk (.slice none 0 0) (.slice none 0 0) (.slice none 0 0) w5 (.slice none 0 0) (.slice none 0 0) u15 (.slice none 0 0) [] [] (ints j) [])
        (fun _ u16 _ => nT.length - (intOf u16).toNat)
      case atStart => exact ⟨0, Nat.zero_le _, rfl, ⟨none, 0, rfl⟩, four_nil wk⟩
      case round =>
        obtain ⟨j, hj, rfl, ⟨ka, kc, rfl⟩, hF⟩ := hrel
        have HF : Hid (Four wk.heap.size wk (.slice none 0 0) (.slice none 0 0) (.slice none 0 0) wr (.slice none 0 0) (.slice none 0 0) (.slice ka j kc) (.slice none 0 0) [] [] (ints j) []) := hF
        clear hF
        by_cases hjn : j < nT.length
        · have hji : (j : Int) < (nT.length : Int) := by omega
          go_wp2_with (first
            | (at_builtin; refine appN HF.out rfl (.tmp 109) (.tmp 112) rfl _ rfl rfl (by rw [ints_len]; omega) ?_; intro g1 cap1 w5 F5))
          go_roundw
          case rel => exact ⟨j + 1, by omega, by go_num, slen (by rw [ints_len]), by rw [ints_succ]; exact F5⟩
          case measure => simp [intOf]; omega
        · obtain rfl : j = nT.length := by omega
          obtain ⟨w6, hw6⟩ : ∃ w6, w6 = wr := ⟨_, rfl⟩
          subst hw6
          have bK : Below wk.heap.size wk w6 := HF.out.kept.below (Below.refl _ _) (Nat.le_refl _) (fun x h => (by cases h)) (fun x h => (by cases h)) (fun x h => (by cases h))
          have hkc : nT.length ≤ kc := capLe HF.out.n.own
          obtain ⟨kb, hkb⟩ : ∃ kb, 0 < nT.length → ka = some ⟨kb, 0, none⟩ ∧ ∀ i, i < nT.length → w6.cell? ⟨kb, i, none⟩ = some (.int .i32 i) := by
            obtain ⟨ka', kc', hke, cK⟩ := HF.out.n.cells
            have hke' : ka = ka' := by
              have := hke
              simp at this
              exact this.1
            subst hke'
            rw [ints_len] at cK
            by_cases h0 : 0 < nT.length
            · obtain ⟨g, hg, hc⟩ := cK h0
              exact ⟨g, fun _ => ⟨hg, fun i hi => by rw [hc i hi, ints_get hi]⟩⟩
            · exact ⟨0, fun h => absurd h h0⟩
          have HKB : Hid (0 < nT.length → ka = some ⟨kb, 0, none⟩ ∧ ∀ i, i < nT.length → w6.cell? ⟨kb, i, none⟩ = some (.int .i32 i)) := hkb
          have BK : Hid (Below wk.heap.size wk w6) := bK
          clear HF bK hkb hjn hj
          go_wp2_with fail
          refine (newNoted_any na ea nc ec nT.length (fun i => nT.getD i 0) (fun i => eT.getD i 0) w6 (by omega) (fun h0 => ?_) (fun h0 => ?_)).mono ?_
          · obtain ⟨g, hg, hc⟩ := CN.out h0
            exact ⟨g, 0, hg, fun i hi => zero_cell (cell_later BK.out (hc i hi))⟩
          · obtain ⟨g, hg, hc⟩ := CE.out h0
            exact ⟨g, 0, hg, fun i hi => zero_cell (cell_later BK.out (hc i hi))⟩
          rintro e w7 ⟨cv, rfl, hcv, hv, b7⟩
          have H7 : Hid (w7.cell? ⟨w6.heap.size, 11, none⟩ = some cv ∧ (∀ i, i < nT.length → NoteV w7 cv i (nT.getD i 0) (eT.getD i 0)) ∧ Below w6.heap.size w6 w7) := hid ⟨hcv, hv, b7⟩
          clear hcv hv b7
          have CT7 : Hid (∀ i, i < total.length → w7.cell? ⟨tg, 0 + i, none⟩ = some (.int .u8 (total.getD i 0))) := hid (fun i hi => zero_cell (cell_later H7.out.2.2 (cell_later BK.out (CT.out i hi))))
          have CK7 : Hid (∀ i, i < nT.length → w7.cell? ⟨kb, i, none⟩ = some (.int .i32 i)) := hid (fun i hi => cell_later H7.out.2.2 ((HKB.out (by omega)).2 i hi))
          have hvpos : 0 < vT.length := by
            rw [HTOT.out.2.2.2]
            cases hc : pcs Sh [] with
            | nil => exact absurd hc (pcs_ne _ _)
            | cons p ps => simp [vends]
          obtain ⟨vg, hvg, cV⟩ := CV.out hvpos
          subst hvg
          have CV7 : Hid (∀ i, i < vT.length → w7.cell? ⟨vg, i, none⟩ = some (.int .i64 (vT.getD i 0))) := hid (fun i hi => cell_later H7.out.2.2 (cell_later BK.out (cV i hi)))
          have B7 : Hid (Below w.heap.size w w7) := hid (B0K.out.trans ((BK.out.trans (H7.out.2.2.mono BK.out.size)).mono B0K.out.size))
          have I0 : Hid (Inv7 In St (fun i => total.getD i 0) total.length (fun i => nT.getD i 0) (fun i => eT.getD i 0) nT.length base (pcs Sh []) 0 0) := hid (inv7_start HTOT.out.1 HTOT.out.2.1 HTOT.out.2.2.1)
          have SB : Hid (∀ j, j < nT.length → 0 ≤ nT.getD j 0 ∧ nT.getD j 0 ≤ 2147483647) := hid (small7 hb0 hb1 (by rw [← HTOT.out.1]; omega) HTOT.out.2.1)
          clear CT CN CE CV B0K cV
          go_wp2_with fail
          go_loopw [15, 18, 19] (fun u15 u18 u19 w8 => ∃ (v p j r kc' : Nat) (ao : Option Addr) (Q : List (List Int)), v ≤ vT.length ∧ u19 = .int .i64 v ∧ u18 = .int .i64 p ∧ u15 = .slice ao r kc' ∧ r ≤ kc' ∧ r + j = nT.length ∧ (0 < r → ao = some ⟨kb, j, none⟩) ∧ Inv7 In St (fun i => total.getD i 0) total.length (fun i => nT.getD i 0) (fun i => eT.getD i 0) nT.length base Q p j ∧ vT.drop v = vends In St Q p ∧ Below w7.heap.size w7 w8)
            (fun _ _ u19 _ => vT.length - (intOf u19).toNat)
          case atStart => exact ⟨0, 0, 0, nT.length, kc, ka, pcs Sh [], Nat.zero_le _, rfl, rfl, rfl, hkc, rfl, fun h0 => (HKB.out h0).1, I0.out, by rw [HTOT.out.2.2.2]; rfl, Below.refl _ _⟩
          case round =>
            obtain ⟨v, p, j, r, kc', ao, Q, hv, rfl, rfl, rfl, hrk, hrj, hao, hI, hvd, hB8⟩ := hrel
            by_cases hvn : v < vT.length
            · cases Q with
              | nil =>
                simp only [vends] at hvd
                have := List.drop_eq_nil_iff.mp hvd
                omega
              | cons q Q =>
                obtain ⟨⟨m, hm⟩, hI'⟩ := hI.step
                obtain ⟨pf, hpf⟩ : ∃ pf, pf = p + (rend In St q []).length := ⟨_, rfl⟩
                obtain ⟨jf, hjf⟩ : ∃ jf, jf = j + (notes In St q [] p).length := ⟨_, rfl⟩
                simp only [vends] at hvd
                rw [← hpf] at hm hI' hvd
                rw [← hjf] at hm hI'
                have hvg : vT.getD v 0 = (pf : Int) ∧ vT.drop (v + 1) = vends In St Q (pf + 1) := by
                  rw [List.drop_eq_getElem_cons hvn] at hvd
                  obtain ⟨d1, d2⟩ := List.cons.inj hvd
                  exact ⟨by simp [List.getD, hvn, d1], d2⟩
                have hpl : pf < total.length + 1 := by have := hI'.len; omega
                have Z : Hid (Calls Try.prog 20 #[.pointer (some ⟨w6.heap.size, 0, none⟩), .slice (some ⟨tg, 0, none⟩) total.length oc, .int .i64 p, .int .i64 base, .slice ao r kc'] wr fun e w' =>
                    ∃ (ao' : Option Addr) (r kr : Nat), e = .returned (.tuple #[.int .i64 pf, .slice ao' r kr]) ∧ r ≤ kr ∧ r + jf = nT.length ∧ (0 < r → ao' = some ⟨kb, jf, none⟩) ∧ Below wr.heap.size wr w') :=
                  hid (zskip_any w6.heap.size tg 0 total.length oc p nT.length kb kc' pf jf j m r base ao cv (fun i => total.getD i 0) (fun i => nT.getD i 0) (fun i => eT.getD i 0) wr (by omega) (by omega) hb0 hb1 (cell_later hB8 H7.out.1) (fun j hj => (H7.out.2.1 j hj).later hB8) (fun j hj => cell_later hB8 (CK7.out j hj)) (fun i hi => cell_later hB8 (CT7.out i hi)) SB.out hm hrk hrj hao)
                have HI : Hid (Inv7 In St (fun i => total.getD i 0) total.length (fun i => nT.getD i 0) (fun i => eT.getD i 0) nT.length base Q (pf + 1) jf ∧ vT.drop (v + 1) = vends In St Q (pf + 1)) := hid ⟨hI', hvg.2⟩
                have HC9 : Hid (∀ w9, Below wr.heap.size wr w9 → w9.cell? ⟨vg, v, none⟩ = some (.int .i64 pf)) := hid (fun w9 h9 => by rw [← hvg.1]; exact cell_later h9 (cell_later hB8 (CV7.out v hvn)))
                have HB8 : Hid (Below w7.heap.size w7 wr) := hB8
                have hvi : (v : Int) < (vT.length : Int) := by omega
                clear hm hI' hvd hvg hI hB8 hao hpf hjf hrj
                go_wp2_with fail
                refine Z.out.mono ?_
                rintro e w9 ⟨ao', r', kr, rfl, g1, g2, g3, g4⟩
                have G : Hid (r' ≤ kr ∧ r' + jf = nT.length ∧ (0 < r' → ao' = some ⟨kb, jf, none⟩) ∧ Below w7.heap.size w7 w9) := hid ⟨g1, g2, g3, HB8.out.trans (g4.mono HB8.out.size)⟩
                have hc9 := HC9.out w9 g4
                clear g1 g2 g3 g4 Z HC9 HB8
                go_wp2
                go_roundw
                case rel => exact ⟨v + 1, pf + 1, jf, r', kr, ao', Q, by omega, by go_num, by go_num, rfl, G.out.1, G.out.2.1, G.out.2.2.1, HI.out.1, HI.out.2, G.out.2.2.2⟩
                case measure => simp [intOf]; omega
            · have hQ : Q = [] := by
                rw [List.drop_eq_nil_iff.mpr (by omega)] at hvd
                cases Q with
                | nil => rfl
                | cons q Q => simp [vends] at hvd
              subst hQ
              have hjn := hI.cnt
              simp only [lnotes, List.length_nil, Nat.add_zero] at hjn
              have hr0 : r = 0 := by omega
              have HB8 : Hid (Below w.heap.size w wr) := hid (B7.out.trans (hB8.mono B7.out.size))
              clear hao hI hvd hB8 hrj hrk hjn
              subst hr0
              go_wp2
              go_ret
              exact ⟨rfl, HB8.out⟩

end Go.Proofs.Qxb6000404a
