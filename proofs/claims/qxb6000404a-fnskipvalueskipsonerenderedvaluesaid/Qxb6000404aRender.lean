import Derived.Test.Qxb6000404aFour
import Derived.Test.Qxb6000404aPlain
namespace Go.Proofs.Qxb6000404a
open Go.RowKit

/-- The slice's elements are the bytes Z (whatever its address; nil: none). -/
structure Reads (w : World) (A : Option Addr) (c : Nat) (Z : List Int) : Prop where
  nil : A = none → Z.length = 0 ∧ c = 0
  le : Z.length ≤ c
  cell : ∀ a, A = some a → ∀ i, i < Z.length → w.cell? (a.add i) = some (.int .u8 (Z.getD i 0))
  byte : ∀ x ∈ Z, 0 ≤ x ∧ x ≤ 255

theorem Reads.keep {w w' : World} {A : Option Addr} {c : Nat} {Z : List Int} (h : Reads w A c Z) (hb : Below w.heap.size w w') : Reads w' A c Z :=
  ⟨h.nil, h.le, fun a ha i hi => cell_later hb (h.cell a ha i hi), h.byte⟩

/-- Element k of what is read: its plain address, its cell in every later world, its bounds. -/
theorem Reads.at {w : World} {A : Option Addr} {c n k : Nat} {Z : List Int} (h : Reads w A c Z) (hn : Z.length = n) (hk : k < n) :
    ∃ b o x, A = some ⟨b, o, none⟩ ∧ Z.drop k = x :: Z.drop (k + 1) ∧ 0 ≤ x ∧ x ≤ 255 ∧ ∀ w', Below w.heap.size w w' → w'.cell? ⟨b, o + k, none⟩ = some (.int .u8 x) := by
  subst hn
  cases A with
  | none => have := h.nil rfl; omega
  | some a =>
    obtain ⟨b, o, rfl, _, hc⟩ := row_plain (show 0 < Z.length by omega) (fun i hi => h.cell a rfl i hi)
    have e : Z.getD k 0 = Z[k] := by simp [List.getD, hk]
    refine ⟨b, o, Z[k], rfl, List.drop_eq_getElem_cons hk, (h.byte _ (List.getElem_mem hk)).1, (h.byte _ (List.getElem_mem hk)).2, fun w' hb => ?_⟩
    rw [← e]
    exact cell_later hb (hc k hk)

section
variable {In St rest top out ns nT : List Int} {b : Int} {f : Nat × Nat → Int} {total : List Int}

theorem step_total (h : out ++ rend In St (b :: rest) top = total) : (out ++ tok In St b top) ++ rend In St rest (stkAfter b top) = total := by
  rw [← h]; simp [rend]

theorem step_notes (hb : ¬ b % 8 = 6) (h : ns ++ (notes In St (b :: rest) top out.length).map f = nT) : ns ++ (notes In St rest (stkAfter b top) (out ++ tok In St b top).length).map f = nT := by
  rw [← h]; simp [notes, hb]

theorem step_notes6 (hb : b % 8 = 6) (h : ns ++ (notes In St (b :: rest) top out.length).map f = nT) : (ns ++ [f (out.length, out.length + (In.length + 2))]) ++ (notes In St rest (stkAfter b top) (out ++ tok In St b top).length).map f = nT := by
  rw [← h]; simp [notes, hb]

theorem tok0 (h : b % 8 = 0) : tok In St b top = [123] ∧ stkAfter b top = 125 :: top := ⟨by simp [tok, h], by simp [stkAfter, h]⟩
theorem tok1 (h : b % 8 = 1) : tok In St b top = [91] ∧ stkAfter b top = 93 :: top := ⟨by simp [tok, h], by simp [stkAfter, h]⟩
theorem tok2 (h : b % 8 = 2) : tok In St b top = top.take 1 ∧ stkAfter b top = top.tail := ⟨by simp [tok, h], by simp [stkAfter, h]⟩
theorem tok3 (h : b % 8 = 3) : tok In St b top = 34 :: (esc St ++ [34]) ∧ stkAfter b top = top := ⟨by simp [tok, h], by simp [stkAfter, h]⟩
theorem tok4 (h : b % 8 = 4) : tok In St b top = (if top = [] then [] else [44]) ∧ stkAfter b top = top := ⟨by simp [tok, h], by simp [stkAfter, h]⟩
theorem tok5 (h : b % 8 = 5) : tok In St b top = [120] ∧ stkAfter b top = top := ⟨by simp [tok, h], by simp [stkAfter, h]⟩
theorem tok6 (h : b % 8 = 6) : tok In St b top = 123 :: (In ++ [125]) ∧ stkAfter b top = top := ⟨by simp [tok, h], by simp [stkAfter, h]⟩
theorem tok7 (h : b % 8 = 7) : tok In St b top = [32] ∧ stkAfter b top = top := ⟨by simp [tok, h], by simp [stkAfter, h]⟩

theorem slen {A : Option Addr} {n m c : Nat} (h : n = m) : ∃ oa oc, Value.slice A n c = .slice oa m oc := ⟨_, _, by rw [h]⟩
theorem capLe {w : World} {base e size : Nat} {A : Option Addr} {n m c : Nat} {xs : List Value} (h : w.ownsRow base e size (.slice A n c) m xs) : n ≤ c := by
  rcases h.2 with ⟨h', _⟩ | ⟨_, _, _, h', _, _, hc, _⟩
  · cases h'; exact Nat.le_refl _
  · cases h'; exact hc
theorem hid {p : Prop} (h : p) : Hid p := h

/-- The length in a slot. -/
def lenOf : Value → Nat | .slice _ n _ => n | _ => 0

theorem esc_cons (c : Int) (s : List Int) : esc (c :: s) = (if c = 34 ∨ c = 92 then [92, c] else [c]) ++ esc s := rfl
end

set_option maxRecDepth 100000 in
set_option maxHeartbeats 4000000 in
/-- zzB1Render: the value is written behind the text, its notes behind the notes. -/
theorem render_any (w0 wi : World) (A1 A2 A3 : Option Addr) (c1 c2 c3 n1 n2 n3 : Nat) (Sh In St out0 ns0 es0 total nT eT : List Int) (base : Int) (oa0 : Option Addr) (oc0 : Nat) (ov nv ev : Value)
    (hov : ov = .slice oa0 out0.length oc0) (hb : Below w0.heap.size w0 wi) (r1 : Reads w0 A1 c1 Sh) (r2 : Reads w0 A2 c2 In) (r3 : Reads w0 A3 c3 St) (e1 : Sh.length = n1) (e2 : In.length = n2) (e3 : St.length = n3)
    (h1 : n1 ≤ 1048576) (h2 : n2 ≤ 1048576) (h3 : n3 ≤ 1048576) (hb0 : 0 ≤ base) (hb1 : base ≤ 1048576)
    (F0 : Four w0.heap.size wi ov nv ev wi ov (.slice none 0 0) nv ev out0 [] ns0 es0)
    (ht : out0 ++ rend In St Sh [] = total) (hnT : ns0 ++ (notes In St Sh [] out0.length).map (fun a => base + (a.1 : Int)) = nT) (heT : es0 ++ (notes In St Sh [] out0.length).map (fun a => base + (a.2 : Int)) = eT)
    (hl1 : total.length ≤ 33554432) (hl2 : nT.length ≤ 33554432) (hl3 : eT.length ≤ 33554432) :
    Calls Try.prog 17 #[ov, .slice A1 n1 c1, .slice A2 n2 c2, .slice A3 n3 c3, .int .i64 base, nv, ev] wi fun e w' =>
      ∃ ov' sv' nv' ev', e = .returned (.tuple #[ov', nv', ev']) ∧ Four w0.heap.size wi ov nv ev w' ov' sv' nv' ev' total [] nT eT := by
  have BEL : Hid (∀ w ov' sv' nv' ev' out stk ns es, Four w0.heap.size wi ov nv ev w ov' sv' nv' ev' out stk ns es → Below w0.heap.size w0 w) := fun w ov' sv' nv' ev' out stk ns es F =>
    F.kept.below hb F.base (fun x h => (F0.o.own.lt x h).1) (fun x h => (F0.n.own.lt x h).1) (fun x h => (F0.e.own.lt x h).1)
  have HR1 : Hid (Reads w0 A1 c1 Sh ∧ Sh.length = n1) := ⟨r1, e1⟩
  have HR2 : Hid (Reads w0 A2 c2 In ∧ In.length = n2) := ⟨r2, e2⟩
  have HR3 : Hid (Reads w0 A3 c3 St ∧ St.length = n3) := ⟨r3, e3⟩
  have HI : Hid (Four w0.heap.size wi ov nv ev wi ov (.slice none 0 0) nv ev out0 [] ns0 es0 ∧ out0 ++ rend In St Sh [] = total ∧ ns0 ++ (notes In St Sh [] out0.length).map (fun a => base + (a.1 : Int)) = nT ∧ es0 ++ (notes In St Sh [] out0.length).map (fun a => base + (a.2 : Int)) = eT ∧ ov = .slice oa0 out0.length oc0) := ⟨F0, ht, hnT, heT, hov⟩
  clear hb r1 r2 r3 e1 e2 e3 F0 ht hnT heT hov
  go_enter Try.func17, Try.ntmps17
  go_wp2_with fail
  go_loopw [0, 5, 6, 17, 18] (fun u0 u5 u6 u17 u18 wr => ∃ (k : Nat) (out top ns es : List Int), k ≤ n1 ∧ u18 = .int .i64 k ∧ (∃ oa oc, u0 = .slice oa out.length oc) ∧ (∃ sa sc, u17 = .slice sa top.length sc) ∧ Four w0.heap.size wi ov nv ev wr u0 u17 u5 u6 out top.reverse ns es ∧ out ++ rend In St (Sh.drop k) top = total ∧ ns ++ (notes In St (Sh.drop k) top out.length).map (fun a => base + (a.1 : Int)) = nT ∧ es ++ (notes In St (Sh.drop k) top out.length).map (fun a => base + (a.2 : Int)) = eT)
    (fun _ _ _ _ u18 _ => n1 - (intOf u18).toNat)
  case atStart => exact ⟨0, out0, [], ns0, es0, Nat.zero_le _, rfl, ⟨oa0, oc0, HI.out.2.2.2.2⟩, ⟨none, 0, rfl⟩, HI.out.1, HI.out.2.1, HI.out.2.2.1, HI.out.2.2.2.1⟩
  case round =>
    obtain ⟨k, out, top, ns, es, hk, rfl, ⟨oa, oc, rfl⟩, ⟨sa, sc, rfl⟩, hF, hT, hN, hE⟩ := hrel
    clear HI
    have HF : Hid (Four w0.heap.size wi ov nv ev wr (.slice oa out.length oc) (.slice sa top.length sc) u5 u6 out top.reverse ns es) := hF
    have hlen : out.length + (rend In St (Sh.drop k) top).length = total.length := by rw [← hT]; simp
    have hlen2 : ns.length + (notes In St (Sh.drop k) top out.length).length = nT.length := by rw [← hN]; simp
    have hlen3 : es.length + (notes In St (Sh.drop k) top out.length).length = eT.length := by rw [← hE]; simp
    have hstk := rend_stk In St (Sh.drop k) top
    by_cases hkn : k < n1
    · obtain ⟨b, o, x, hA, hD, hx0, hx1, hcell⟩ := HR1.out.1.at HR1.out.2 hkn
      subst hA
      have hcx := hcell wr (BEL.out _ _ _ _ _ _ _ _ _ hF)
      rw [hD] at hT hN hE hlen hlen2 hlen3 hstk
      have ST : Hid ((out ++ tok In St x top) ++ rend In St (Sh.drop (k + 1)) (stkAfter x top) = total) := step_total hT
      have hlt := congrArg List.length ST.out
      simp only [List.length_append] at hlt
      have SN : Hid (ns ++ (notes In St (x :: Sh.drop (k + 1)) top out.length).map (fun a => base + (a.1 : Int)) = nT) := hN
      have SE : Hid (es ++ (notes In St (x :: Sh.drop (k + 1)) top out.length).map (fun a => base + (a.2 : Int)) = eT) := hE
      have hki : (k : Int) < (n1 : Int) := by omega
      have hol : out.length ≤ 33554432 := by omega
      have htl : top.length ≤ 33554432 := by omega
      have hnl : ns.length ≤ 33554432 := by omega
      have hel : es.length ≤ 33554432 := by omega
      clear hF hT hN hE hD hcell hlen hlen2 hlen3 hstk
      by_cases q0 : x % 8 = 0
      · obtain ⟨t1, t2⟩ := tok0 (In := In) (St := St) (top := top) q0
        have P : Hid ((out ++ [123]) ++ rend In St (Sh.drop (k + 1)) (125 :: top) = total ∧ ns ++ (notes In St (Sh.drop (k + 1)) (125 :: top) (out ++ [123]).length).map (fun a => base + (a.1 : Int)) = nT ∧ es ++ (notes In St (Sh.drop (k + 1)) (125 :: top) (out ++ [123]).length).map (fun a => base + (a.2 : Int)) = eT) := by
          have a := ST.out; have b' := step_notes (by omega) SN.out; have c' := step_notes (by omega) SE.out
          rw [t1, t2] at a b' c'
          exact ⟨a, b', c'⟩
        have y0 : (x % 8 == 0) = true := by simp [q0]
        clear q0 t1 t2 ST SN SE hlt
        go_wp2_with (first
          | (at_builtin; refine appO HF.out rfl (.tmp 37) (.tmp 38) rfl _ rfl rfl (by omega) ?_; intro g1 cap1 w1 F1)
          | (at_builtin; refine appS F1 rfl (.tmp 40) (.tmp 41) rfl _ rfl rfl (by simp; omega) ?_; intro g2 cap2 w2 F2))
        go_roundw
        case rel => exact ⟨k + 1, out ++ [123], (125 :: top), ns, es, by omega, by go_num, slen (by simp), slen (by simp), by simpa using F2, P.out.1, P.out.2.1, P.out.2.2⟩
        case measure => simp [intOf]; omega
      by_cases q1 : x % 8 = 1
      · obtain ⟨t1, t2⟩ := tok1 (In := In) (St := St) (top := top) q1
        have P : Hid ((out ++ [91]) ++ rend In St (Sh.drop (k + 1)) (93 :: top) = total ∧ ns ++ (notes In St (Sh.drop (k + 1)) (93 :: top) (out ++ [91]).length).map (fun a => base + (a.1 : Int)) = nT ∧ es ++ (notes In St (Sh.drop (k + 1)) (93 :: top) (out ++ [91]).length).map (fun a => base + (a.2 : Int)) = eT) := by
          have a := ST.out; have b' := step_notes (by omega) SN.out; have c' := step_notes (by omega) SE.out
          rw [t1, t2] at a b' c'
          exact ⟨a, b', c'⟩
        have y0 : (x % 8 == 0) = false := by simp; omega
        have y1 : (x % 8 == 1) = true := by simp [q1]
        clear q1 t1 t2 ST SN SE hlt
        go_wp2_with (first
          | (at_builtin; refine appO HF.out rfl (.tmp 45) (.tmp 46) rfl _ rfl rfl (by omega) ?_; intro g1 cap1 w1 F1)
          | (at_builtin; refine appS F1 rfl (.tmp 48) (.tmp 49) rfl _ rfl rfl (by simp; omega) ?_; intro g2 cap2 w2 F2))
        go_roundw
        case rel => exact ⟨k + 1, out ++ [91], (93 :: top), ns, es, by omega, by go_num, slen (by simp), slen (by simp), by simpa using F2, P.out.1, P.out.2.1, P.out.2.2⟩
        case measure => simp [intOf]; omega
      by_cases q2 : x % 8 = 2
      · obtain ⟨t1, t2⟩ := tok2 (In := In) (St := St) (top := top) q2
        have y0 : (x % 8 == 0) = false := by simp; omega
        have y1 : (x % 8 == 1) = false := by simp; omega
        have y2 : (x % 8 == 2) = true := by simp [q2]
        cases top with
        | nil =>
          have P : Hid ((out ++ []) ++ rend In St (Sh.drop (k + 1)) [] = total ∧ ns ++ (notes In St (Sh.drop (k + 1)) [] (out ++ []).length).map (fun a => base + (a.1 : Int)) = nT ∧ es ++ (notes In St (Sh.drop (k + 1)) [] (out ++ []).length).map (fun a => base + (a.2 : Int)) = eT) := by
            have a := ST.out; have b' := step_notes (by omega) SN.out; have c' := step_notes (by omega) SE.out
            rw [t1, t2] at a b' c'
            exact ⟨a, b', c'⟩
          clear q2 t1 t2 ST SN SE hlt
          go_wp2
          go_roundw
          case rel => exact ⟨k + 1, out, [], ns, es, by omega, by go_num, ⟨_, _, rfl⟩, ⟨_, _, rfl⟩, HF.out, by simpa using P.out.1, by simpa using P.out.2.1, by simpa using P.out.2.2⟩
          case measure => simp [intOf]; omega
        | cons cc top =>
          have P : Hid ((out ++ [cc]) ++ rend In St (Sh.drop (k + 1)) top = total ∧ ns ++ (notes In St (Sh.drop (k + 1)) top (out ++ [cc]).length).map (fun a => base + (a.1 : Int)) = nT ∧ es ++ (notes In St (Sh.drop (k + 1)) top (out ++ [cc]).length).map (fun a => base + (a.2 : Int)) = eT) := by
            have a := ST.out; have b' := step_notes (by omega) SN.out; have c' := step_notes (by omega) SE.out
            rw [t1, t2] at a b' c'
            exact ⟨a, b', c'⟩
          obtain ⟨sl, hsl⟩ : ∃ sl, sl = top.length := ⟨_, rfl⟩
          have HSL : Hid (sl = top.length) := hsl
          have hF := HF.out
          simp only [List.length_cons] at hF
          rw [← hsl] at hF
          obtain ⟨sg, scap, hsv, _, _⟩ := hF.s.own.form (by simp)
          have esv : sa = some ⟨sg, 0, none⟩ ∧ sc = scap := by
            have := hsv
            simp at this
            exact ⟨this.1, this.2.2⟩
          obtain ⟨rfl, rfl⟩ := esv
          have HF2 : Hid (Four w0.heap.size wi ov nv ev wr (.slice oa out.length oc) (.slice (some ⟨sg, 0, none⟩) (sl + 1) sc) u5 u6 out (top.reverse ++ [cc]) ns es) := hid (by simpa using hF)
          have hcc : wr.cell? ⟨sg, sl, none⟩ = some (.int .u8 cc) := by
            have h' := HF2.out.s.own
            have el : (top.reverse ++ [cc]).length = sl + 1 := by simp [hsl]
            rw [el] at h'
            rw [h'.cellAt sl (by omega), hsl]
            simp
          have hsl2 : sl ≤ 33554432 := by simp at htl; omega
          have hsc : sl + 1 ≤ sc := capLe HF2.out.s.own
          simp only [List.length_cons]
          rw [← hsl]
          clear q2 t1 t2 ST SN SE hlt hF hsv HF hsl htl
          go_wp2_with (first
            | (at_builtin; refine appO HF2.out rfl (.tmp 56) (.tmp 63) rfl _ rfl rfl (by omega) ?_; intro g1 cap1 w1 F1))
          have F2 := F1.pop (by simp [HSL.out])
          have HF3 : Hid (Four w0.heap.size wi ov nv ev w1 (.slice (some ⟨g1, 0, none⟩) (out.length + 1) cap1) (.slice (some ⟨sg, 0, none⟩) sl sc) u5 u6 (out ++ [cc]) top.reverse ns es) := F2
          clear F1 F2
          go_wp2
          go_roundw
          case rel => exact ⟨k + 1, out ++ [cc], top, ns, es, by omega, by go_num, slen (by simp), slen HSL.out, HF3.out, P.out.1, P.out.2.1, P.out.2.2⟩
          case measure => simp [intOf]; omega
      by_cases q3 : x % 8 = 3
      · obtain ⟨t1, t2⟩ := tok3 (In := In) (St := St) (top := top) q3
        have P : Hid ((out ++ (34 :: (esc St ++ [34]))) ++ rend In St (Sh.drop (k + 1)) top = total ∧ ns ++ (notes In St (Sh.drop (k + 1)) top (out ++ (34 :: (esc St ++ [34]))).length).map (fun a => base + (a.1 : Int)) = nT ∧ es ++ (notes In St (Sh.drop (k + 1)) top (out ++ (34 :: (esc St ++ [34]))).length).map (fun a => base + (a.2 : Int)) = eT) := by
          have a := ST.out; have b' := step_notes (by omega) SN.out; have c' := step_notes (by omega) SE.out
          rw [t1, t2] at a b' c'
          exact ⟨a, b', c'⟩
        have hl34 : out.length + ((esc St).length + 2) ≤ 33554432 := by rw [t1] at hlt; simp at hlt; omega
        have y0 : (x % 8 == 0) = false := by simp; omega
        have y1 : (x % 8 == 1) = false := by simp; omega
        have y2 : (x % 8 == 2) = false := by simp; omega
        have y3 : (x % 8 == 3) = true := by simp [q3]
        clear q3 t1 t2 ST SN SE hlt
        go_wp2_with (first
          | (at_builtin; refine appO HF.out rfl (.tmp 72) (.tmp 73) rfl _ rfl rfl (by omega) ?_; intro g1 cap1 w1 F1))
        have HF1 : Hid (Four w0.heap.size wi ov nv ev w1 (.slice (some ⟨g1, 0, none⟩) (out.length + 1) cap1) (.slice sa top.length sc) u5 u6 (out ++ [34]) top.reverse ns es) := F1
        clear F1 HF hcx
        go_loopw [0, 19] (fun v0 v19 w2 => ∃ (m : Nat) (cur : List Int), m ≤ n3 ∧ v19 = .int .i64 m ∧ (∃ oa oc, v0 = .slice oa cur.length oc) ∧ Four w0.heap.size wi ov nv ev w2 v0 (.slice sa top.length sc) u5 u6 cur top.reverse ns es ∧ cur ++ esc (St.drop m) = out ++ 34 :: esc St)
          (fun _ v19 _ => n3 - (intOf v19).toNat)
        case atStart => exact ⟨0, out ++ [34], Nat.zero_le _, rfl, slen (by simp), HF1.out, by simp⟩
        case round =>
          obtain ⟨m, cur, hm, rfl, ⟨ca, cc, rfl⟩, hF2, hcur⟩ := hrel
          have HF2 : Hid (Four w0.heap.size wi ov nv ev wr (.slice ca cur.length cc) (.slice sa top.length sc) u5 u6 cur top.reverse ns es) := hF2
          have hcl := congrArg List.length hcur
          simp only [List.length_append, List.length_cons] at hcl
          by_cases hm3 : m < n3
          · obtain ⟨b3, o3, c, hA3, hD3, hc0, hc1, hcell3⟩ := HR3.out.1.at HR3.out.2 hm3
            subst hA3
            have hcm := hcell3 wr (BEL.out _ _ _ _ _ _ _ _ _ hF2)
            rw [hD3, esc_cons] at hcur hcl
            have hmi : (m : Int) < (n3 : Int) := by omega
            have HC3 : Hid (∀ w', Below w0.heap.size w0 w' → w'.cell? ⟨b3, o3 + m, none⟩ = some (.int .u8 c)) := hcell3
            by_cases hq : c = 34 ∨ c = 92
            · rw [if_pos hq] at hcur hcl
              have hb2 : cur.length + 2 ≤ 33554432 := by simp at hcl; omega
              have HCUR : Hid ((cur ++ [92, c]) ++ esc (St.drop (m + 1)) = out ++ 34 :: esc St) := by show _ = _; rw [← hcur]; simp
              by_cases c34 : c = 34
              · have x34 : (c == 34) = true := by simp [c34]
                clear hF2 hcur hcl hD3 hcell3 hq c34
                go_wp2_with (first
                  | (at_builtin; refine appO HF2.out rfl (.tmp 93) (.tmp 94) rfl _ rfl rfl (by omega) ?_; intro g2 cap2 w2 F2; have hcm2 := HC3.out w2 (BEL.out _ _ _ _ _ _ _ _ _ F2))
                  | (at_builtin; refine appO F2 rfl (.tmp 96) (.tmp 101) rfl _ rfl rfl (by simp; omega) ?_; intro g3 cap3 w3 F3))
                go_roundw
                case rel => exact ⟨m + 1, cur ++ [92, c], by omega, by go_num, slen (by simp), by simpa using F3, HCUR.out⟩
                case measure => simp [intOf]; omega
              · have x34 : (c == 34) = false := by simp [c34]
                have x92 : (c == 92) = true := by simp; omega
                clear hF2 hcur hcl hD3 hcell3 hq c34
                go_wp2_with (first
                  | (at_builtin; refine appO HF2.out rfl (.tmp 93) (.tmp 94) rfl _ rfl rfl (by omega) ?_; intro g2 cap2 w2 F2; have hcm2 := HC3.out w2 (BEL.out _ _ _ _ _ _ _ _ _ F2))
                  | (at_builtin; refine appO F2 rfl (.tmp 96) (.tmp 101) rfl _ rfl rfl (by simp; omega) ?_; intro g3 cap3 w3 F3))
                go_roundw
                case rel => exact ⟨m + 1, cur ++ [92, c], by omega, by go_num, slen (by simp), by simpa using F3, HCUR.out⟩
                case measure => simp [intOf]; omega
            · rw [if_neg hq] at hcur hcl
              have hb2 : cur.length + 1 ≤ 33554432 := by simp at hcl; omega
              have HCUR : Hid ((cur ++ [c]) ++ esc (St.drop (m + 1)) = out ++ 34 :: esc St) := by show _ = _; rw [← hcur]; simp
              have x34 : (c == 34) = false := by simp; omega
              have x92 : (c == 92) = false := by simp; omega
              clear hF2 hcur hcl hD3 hcell3 hq
              go_wp2_with (first
                | (at_builtin; refine appO HF2.out rfl (.tmp 96) (.tmp 101) rfl _ rfl rfl (by omega) ?_; intro g3 cap3 w3 F3))
              go_roundw
              case rel => exact ⟨m + 1, cur ++ [c], by omega, by go_num, slen (by simp), F3, HCUR.out⟩
              case measure => simp [intOf]; omega
          · have hcur' : cur = out ++ 34 :: esc St := by
              have e0 : St.drop m = [] := by rw [List.drop_eq_nil_iff]; have := HR3.out.2; omega
              rw [e0] at hcur
              simpa [esc] using hcur
            have HCUR : Hid (cur = out ++ 34 :: esc St) := hcur'
            clear hcur hF2 hcl hcur'
            have hb2 : cur.length ≤ 33554432 := by rw [HCUR.out]; simp; omega
            go_wp2_with (first
              | (at_builtin; refine appO HF2.out rfl (.tmp 103) (.tmp 104) rfl _ rfl rfl (by omega) ?_; intro g3 cap3 w3 F3))
            go_roundw
            case rel =>
              have e : cur ++ [34] = out ++ (34 :: (esc St ++ [34])) := by rw [HCUR.out]; simp
              refine ⟨k + 1, out ++ (34 :: (esc St ++ [34])), top, ns, es, by omega, by go_num, slen (by rw [← e]; simp), ⟨_, _, rfl⟩, by rw [← e]; exact F3, P.out.1, P.out.2.1, P.out.2.2⟩
            case measure => simp [intOf]; omega
      by_cases q4 : x % 8 = 4
      · obtain ⟨t1, t2⟩ := tok4 (In := In) (St := St) (top := top) q4
        have y0 : (x % 8 == 0) = false := by simp; omega
        have y1 : (x % 8 == 1) = false := by simp; omega
        have y2 : (x % 8 == 2) = false := by simp; omega
        have y3 : (x % 8 == 3) = false := by simp; omega
        have y4 : (x % 8 == 4) = true := by simp [q4]
        by_cases hte : top = []
        · rw [if_pos hte] at t1
          have P : Hid ((out ++ []) ++ rend In St (Sh.drop (k + 1)) top = total ∧ ns ++ (notes In St (Sh.drop (k + 1)) top (out ++ []).length).map (fun a => base + (a.1 : Int)) = nT ∧ es ++ (notes In St (Sh.drop (k + 1)) top (out ++ []).length).map (fun a => base + (a.2 : Int)) = eT) := by
            have a := ST.out; have b' := step_notes (by omega) SN.out; have c' := step_notes (by omega) SE.out
            rw [t1, t2] at a b' c'
            exact ⟨a, b', c'⟩
          have htz : top.length = 0 := by rw [hte]; rfl
          have HTZ : Hid (top.length = 0) := htz
          have htz' : decide (0 < top.length) = false := by simp; omega
          clear q4 t1 t2 ST SN SE hlt hte
          rw [htz]
          clear htz htz'
          go_wp2
          go_roundw
          case rel => exact ⟨k + 1, out, top, ns, es, by omega, by go_num, ⟨_, _, rfl⟩, slen HTZ.out.symm, by have h' := HF.out; rw [HTZ.out] at h'; exact h', by simpa using P.out.1, by simpa using P.out.2.1, by simpa using P.out.2.2⟩
          case measure => simp [intOf]; omega
        · rw [if_neg hte] at t1
          have P : Hid ((out ++ [44]) ++ rend In St (Sh.drop (k + 1)) top = total ∧ ns ++ (notes In St (Sh.drop (k + 1)) top (out ++ [44]).length).map (fun a => base + (a.1 : Int)) = nT ∧ es ++ (notes In St (Sh.drop (k + 1)) top (out ++ [44]).length).map (fun a => base + (a.2 : Int)) = eT) := by
            have a := ST.out; have b' := step_notes (by omega) SN.out; have c' := step_notes (by omega) SE.out
            rw [t1, t2] at a b' c'
            exact ⟨a, b', c'⟩
          have htp : 0 < top.length := by
            cases top with
            | nil => exact absurd rfl hte
            | cons _ _ => simp
          clear q4 t1 t2 ST SN SE hlt hte
          go_wp2_with (first
            | (at_builtin; refine appO HF.out rfl (.tmp 111) (.tmp 112) rfl _ rfl rfl (by omega) ?_; intro g1 cap1 w1 F1))
          go_roundw
          case rel => exact ⟨k + 1, out ++ [44], top, ns, es, by omega, by go_num, slen (by simp), ⟨_, _, rfl⟩, F1, P.out.1, P.out.2.1, P.out.2.2⟩
          case measure => simp [intOf]; omega
      by_cases q5 : x % 8 = 5
      · obtain ⟨t1, t2⟩ := tok5 (In := In) (St := St) (top := top) q5
        have P : Hid ((out ++ [120]) ++ rend In St (Sh.drop (k + 1)) top = total ∧ ns ++ (notes In St (Sh.drop (k + 1)) top (out ++ [120]).length).map (fun a => base + (a.1 : Int)) = nT ∧ es ++ (notes In St (Sh.drop (k + 1)) top (out ++ [120]).length).map (fun a => base + (a.2 : Int)) = eT) := by
          have a := ST.out; have b' := step_notes (by omega) SN.out; have c' := step_notes (by omega) SE.out
          rw [t1, t2] at a b' c'
          exact ⟨a, b', c'⟩
        have y0 : (x % 8 == 0) = false := by simp; omega
        have y1 : (x % 8 == 1) = false := by simp; omega
        have y2 : (x % 8 == 2) = false := by simp; omega
        have y3 : (x % 8 == 3) = false := by simp; omega
        have y4 : (x % 8 == 4) = false := by simp; omega
        have y5 : (x % 8 == 5) = true := by simp [q5]
        clear q5 t1 t2 ST SN SE hlt
        go_wp2_with (first
          | (at_builtin; refine appO HF.out rfl (.tmp 116) (.tmp 117) rfl _ rfl rfl (by omega) ?_; intro g1 cap1 w1 F1))
        go_roundw
        case rel => exact ⟨k + 1, out ++ [120], top, ns, es, by omega, by go_num, slen (by simp), ⟨_, _, rfl⟩, F1, P.out.1, P.out.2.1, P.out.2.2⟩
        case measure => simp [intOf]; omega
      by_cases q6 : x % 8 = 6
      · obtain ⟨t1, t2⟩ := tok6 (In := In) (St := St) (top := top) q6
        have P : Hid ((out ++ (123 :: (In ++ [125]))) ++ rend In St (Sh.drop (k + 1)) top = total ∧ (ns ++ [base + (out.length : Int)]) ++ (notes In St (Sh.drop (k + 1)) top (out ++ (123 :: (In ++ [125]))).length).map (fun a => base + (a.1 : Int)) = nT ∧ (es ++ [base + ((out.length + (In.length + 2) : Nat) : Int)]) ++ (notes In St (Sh.drop (k + 1)) top (out ++ (123 :: (In ++ [125]))).length).map (fun a => base + (a.2 : Int)) = eT) := by
          have a := ST.out; have b' := step_notes6 (by omega) SN.out; have c' := step_notes6 (by omega) SE.out
          rw [t1, t2] at a b' c'
          exact ⟨a, b', c'⟩
        have hl6 : out.length + (In.length + 2) ≤ 33554432 := by rw [t1] at hlt; simp at hlt; omega
        have hn6 : ns.length + 1 ≤ 33554432 := by have := congrArg List.length P.out.2.1; simp at this; omega
        have he6 : es.length + 1 ≤ 33554432 := by have := congrArg List.length P.out.2.2; simp at this; omega
        have y0 : (x % 8 == 0) = false := by simp; omega
        have y1 : (x % 8 == 1) = false := by simp; omega
        have y2 : (x % 8 == 2) = false := by simp; omega
        have y3 : (x % 8 == 3) = false := by simp; omega
        have y4 : (x % 8 == 4) = false := by simp; omega
        have y5 : (x % 8 == 5) = false := by simp; omega
        have y6 : (x % 8 == 6) = true := by simp [q6]
        clear q6 t1 t2 ST SN SE hlt
        go_wp2_with (first
          | (at_builtin; refine appN HF.out rfl (.tmp 121) (.tmp 127) rfl _ rfl rfl (by omega) ?_; intro g0 cap0 w1 F1)
          | (at_builtin; refine appO F1 rfl (.tmp 129) (.tmp 130) rfl _ rfl rfl (by omega) ?_; intro g1 cap1 w2 F2))
        have HF1 : Hid (Four w0.heap.size wi ov nv ev w2 (.slice (some ⟨g1, 0, none⟩) (out.length + 1) cap1) (.slice sa top.length sc) (.slice (some ⟨g0, 0, none⟩) (ns.length + 1) cap0) u6 (out ++ [123]) top.reverse (ns ++ [base + (out.length : Int)]) es) := F2
        clear F1 F2 HF hcx
        go_loopw [0, 20] (fun v0 v20 w2 => ∃ (m : Nat) (cur : List Int), m ≤ n2 ∧ v20 = .int .i64 m ∧ (∃ oa oc, v0 = .slice oa cur.length oc) ∧ Four w0.heap.size wi ov nv ev w2 v0 (.slice sa top.length sc) (.slice (some ⟨g0, 0, none⟩) (ns.length + 1) cap0) u6 cur top.reverse (ns ++ [base + (out.length : Int)]) es ∧ cur ++ In.drop m = out ++ 123 :: In)
          (fun _ v20 _ => n2 - (intOf v20).toNat)
        case atStart => exact ⟨0, out ++ [123], Nat.zero_le _, rfl, slen (by simp), HF1.out, by simp⟩
        case round =>
          obtain ⟨m, cur, hm, rfl, ⟨ca, cc, rfl⟩, hF2, hcur⟩ := hrel
          have HF2 : Hid (Four w0.heap.size wi ov nv ev wr (.slice ca cur.length cc) (.slice sa top.length sc) (.slice (some ⟨g0, 0, none⟩) (ns.length + 1) cap0) u6 cur top.reverse (ns ++ [base + (out.length : Int)]) es) := hF2
          have hcl := congrArg List.length hcur
          simp only [List.length_append, List.length_cons] at hcl
          by_cases hm3 : m < n2
          · obtain ⟨b3, o3, c, hA3, hD3, hc0, hc1, hcell3⟩ := HR2.out.1.at HR2.out.2 hm3
            subst hA3
            have hcm := hcell3 wr (BEL.out _ _ _ _ _ _ _ _ _ hF2)
            rw [hD3] at hcur hcl
            have hmi : (m : Int) < (n2 : Int) := by omega
            have hb2 : cur.length + 1 ≤ 33554432 := by simp at hcl; omega
            have HCUR : Hid ((cur ++ [c]) ++ In.drop (m + 1) = out ++ 123 :: In) := by show _ = _; rw [← hcur]; simp
            clear hF2 hcur hcl hD3 hcell3
            go_wp2_with (first
              | (at_builtin; refine appO HF2.out rfl (.tmp 138) (.tmp 143) rfl _ rfl rfl (by omega) ?_; intro g3 cap3 w3 F3))
            go_roundw
            case rel => exact ⟨m + 1, cur ++ [c], by omega, by go_num, slen (by simp), F3, HCUR.out⟩
            case measure => simp [intOf]; omega
          · have hcur' : cur = out ++ 123 :: In := by
              have e0 : In.drop m = [] := by rw [List.drop_eq_nil_iff]; have := HR2.out.2; omega
              rw [e0] at hcur
              simpa using hcur
            have HCUR : Hid (cur = out ++ 123 :: In) := hcur'
            have hb2 : cur.length = out.length + (In.length + 1) := by rw [hcur']; simp
            have HB2 : Hid (cur.length = out.length + (In.length + 1)) := hb2
            have hb3 : cur.length + 1 ≤ 33554432 := by omega
            clear hcur hF2 hcl hcur' hb2
            go_wp2_with (first
              | (at_builtin; refine appO HF2.out rfl (.tmp 145) (.tmp 146) rfl _ rfl rfl (by omega) ?_; intro g3 cap3 w3 F3)
              | (at_builtin; refine appE F3 rfl (.tmp 148) (.tmp 154) rfl _ rfl rfl (by omega) ?_; intro g4 cap4 w4 F4))
            go_roundw
            case rel =>
              have e : cur ++ [125] = out ++ (123 :: (In ++ [125])) := by rw [HCUR.out]; simp
              have e' : base + ((cur.length : Int) + 1) = base + ((out.length + (In.length + 2) : Nat) : Int) := by have := HB2.out; omega
              rw [e, e'] at F4
              refine ⟨k + 1, out ++ (123 :: (In ++ [125])), top, ns ++ [base + (out.length : Int)], es ++ [base + ((out.length + (In.length + 2) : Nat) : Int)], by omega, by go_num, slen (by rw [← e]; simp), ⟨_, _, rfl⟩, F4, P.out.1, P.out.2.1, P.out.2.2⟩
            case measure => simp [intOf]; omega
      have q7 : x % 8 = 7 := by omega
      obtain ⟨t1, t2⟩ := tok7 (In := In) (St := St) (top := top) q7
      have P : Hid ((out ++ [32]) ++ rend In St (Sh.drop (k + 1)) top = total ∧ ns ++ (notes In St (Sh.drop (k + 1)) top (out ++ [32]).length).map (fun a => base + (a.1 : Int)) = nT ∧ es ++ (notes In St (Sh.drop (k + 1)) top (out ++ [32]).length).map (fun a => base + (a.2 : Int)) = eT) := by
        have a := ST.out; have b' := step_notes (by omega) SN.out; have c' := step_notes (by omega) SE.out
        rw [t1, t2] at a b' c'
        exact ⟨a, b', c'⟩
      have y0 : (x % 8 == 0) = false := by simp; omega
      have y1 : (x % 8 == 1) = false := by simp; omega
      have y2 : (x % 8 == 2) = false := by simp; omega
      have y3 : (x % 8 == 3) = false := by simp; omega
      have y4 : (x % 8 == 4) = false := by simp; omega
      have y5 : (x % 8 == 5) = false := by simp; omega
      have y6 : (x % 8 == 6) = false := by simp; omega
      clear q0 q1 q2 q3 q4 q5 q6 q7 t1 t2 ST SN SE hlt
      go_wp2_with (first
        | (at_builtin; refine appO HF.out rfl (.tmp 32) (.tmp 33) rfl _ rfl rfl (by omega) ?_; intro g1 cap1 w1 F1))
      go_roundw
      case rel => exact ⟨k + 1, out ++ [32], top, ns, es, by omega, by go_num, slen (by simp), ⟨_, _, rfl⟩, F1, P.out.1, P.out.2.1, P.out.2.2⟩
      case measure => simp [intOf]; omega
    · have e0 : Sh.drop k = [] := by rw [List.drop_eq_nil_iff]; have := HR1.out.2; omega
      rw [e0] at hT hN hE hlen
      have HP : Hid (out ++ top = total ∧ ns = nT ∧ es = eT) := ⟨by simpa [rend] using hT, by simpa [notes] using hN, by simpa [notes] using hE⟩
      clear hT hN hE hlen hlen2 hlen3 hstk e0 hF
      go_wp2_with fail
      go_loopw [0, 17] (fun v0 v17 w2 => ∃ (cur tp : List Int), (∃ oa oc, v0 = .slice oa cur.length oc) ∧ (∃ sa sc, v17 = .slice sa tp.length sc) ∧ Four w0.heap.size wi ov nv ev w2 v0 v17 u5 u6 cur tp.reverse ns es ∧ cur ++ tp = total)
        (fun _ v17 _ => lenOf v17)
      case atStart => exact ⟨out, top, ⟨_, _, rfl⟩, ⟨_, _, rfl⟩, HF.out, HP.out.1⟩
      case round =>
        obtain ⟨cur, tp, ⟨ca, cc, rfl⟩, ⟨ta, tc, rfl⟩, hF2, hcur⟩ := hrel
        have hcl := congrArg List.length hcur
        simp only [List.length_append] at hcl
        cases tp with
        | nil =>
          have HF2 : Hid (Four w0.heap.size wi ov nv ev wr (.slice ca cur.length cc) (.slice ta 0 tc) u5 u6 cur [] ns es) := hF2
          have HCUR : Hid (cur = total) := hid (by simpa using hcur)
          clear hF2 hcur hcl
          go_wp2
          go_ret3
          refine ⟨.slice ca cur.length cc, .slice ta 0 tc, u5, u6, rfl, ?_⟩
          have h' := HF2.out
          obtain ⟨_, p2, p3⟩ := HP.out
          rw [p2, p3] at h'
          have p1 := HCUR.out
          rw [p1] at h'
          rw [p1]
          exact h'
        | cons c tp =>
          obtain ⟨sl, hsl⟩ : ∃ sl, sl = tp.length := ⟨_, rfl⟩
          have HSL : Hid (sl = tp.length) := hsl
          simp only [List.length_cons] at hF2
          rw [← hsl] at hF2
          obtain ⟨sg, scap, hsv, _, _⟩ := hF2.s.own.form (by simp)
          have esv : ta = some ⟨sg, 0, none⟩ ∧ tc = scap := by
            have := hsv
            simp at this
            exact ⟨this.1, this.2.2⟩
          obtain ⟨rfl, rfl⟩ := esv
          have HF2 : Hid (Four w0.heap.size wi ov nv ev wr (.slice ca cur.length cc) (.slice (some ⟨sg, 0, none⟩) (sl + 1) tc) u5 u6 cur (tp.reverse ++ [c]) ns es) := hid (by simpa using hF2)
          have hcc : wr.cell? ⟨sg, sl, none⟩ = some (.int .u8 c) := by
            have h' := HF2.out.s.own
            have el : (tp.reverse ++ [c]).length = sl + 1 := by simp [hsl]
            rw [el] at h'
            rw [h'.cellAt sl (by omega), hsl]
            simp
          have hb2 : cur.length + 1 + sl ≤ 33554432 := by simp at hcl; omega
          have HCUR : Hid ((cur ++ [c]) ++ tp = total) := by show _ = _; rw [← hcur]; simp
          have hsc : sl + 1 ≤ tc := capLe HF2.out.s.own
          simp only [List.length_cons]
          rw [← hsl]
          clear hF2 hsv hcur hcl hsl
          go_wp2_with (first
            | (at_builtin; refine appO HF2.out rfl (.tmp 159) (.tmp 166) rfl _ rfl rfl (by omega) ?_; intro g1 cap1 w1 F1))
          have F2 := F1.pop (by simp [HSL.out])
          have HF3 : Hid (Four w0.heap.size wi ov nv ev w1 (.slice (some ⟨g1, 0, none⟩) (cur.length + 1) cap1) (.slice (some ⟨sg, 0, none⟩) sl tc) u5 u6 (cur ++ [c]) tp.reverse ns es) := F2
          clear F1 F2
          go_wp2
          go_roundw
          case rel => exact ⟨cur ++ [c], tp, slen (by simp), slen HSL.out, HF3.out, HCUR.out⟩
          case measure => simp [lenOf]

end Go.Proofs.Qxb6000404a
