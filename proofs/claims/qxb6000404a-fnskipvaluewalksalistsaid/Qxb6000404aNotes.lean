import Derived.Test.Qxb6000404aNotesParts
import Derived.Deep.DeepCutAuto
import Derived.Test.Qxb6000404aTail
namespace Go.Proofs.Qxb6000404a
open Go.RowKit
attribute [local go_sem ↓] Go.wp_at_zero Go.wp_at_succ

/-- What make lays for a new chunk. -/
def chunk0 : Array Value := madeCells #[.int .i32 0, .int .i32 0] 2048

theorem chunk0_size : chunk0.size = 2048 := size_madeCells _ _

theorem make_chunk (w : World) : (Instr.makeSlice 57 (.int .i64 0) (.int .i64 1024)).run Try.prog w = .ok (.slice (some ⟨w.heap.size, 0, none⟩) 0 1024) (w.alloc (.cells chunk0 59)) := by
  obtain ⟨i9, hi9, hz90, hz91, hz92⟩ := info_parts Try.info59
  have := run_make (P := Try.prog) w 57 59 i9 _ Try.underlying57 hi9 hz90 .i64 .i64 0 1024 (by omega) (by omega) (by rw [hz92]; omega) (by omega)
  rw [this, hz91]
  rfl

theorem frozen_later {w w' : World} {b j : Nat} (h : w.frozen? ⟨b, j, none⟩ = false) (hlt : b < w.heap.size) (hb : Below w.heap.size w w') : w'.frozen? ⟨b, j, none⟩ = false := (hb.frozen (p := ⟨b, j, none⟩) hlt).trans h

theorem new_second (w : World) (o1 : Obj) (cs : Array Value) (t : TypeId) : ((w.alloc o1).alloc (.cells cs t)).drew.heap[w.heap.size + 1]? = some (.cells cs t (0, 0)) := by
  show ((w.alloc o1).alloc (.cells cs t)).heap[w.heap.size + 1]? = _
  have := heap_alloc_new (w.alloc o1) (.cells cs t)
  simpa using this

def nch (k : Nat) : Nat := (k + 1023) / 1024

theorem NInv.setBelow {B : Nat} {w : World} {Lb nc kk : Nat} {nn : Int} {S E : Nat → Int} {cv : Value} {h : Nat → Nat} (I : NInv B w Lb nc kk nn S E cv h) {b o : Nat} (hb : b < B) (hne : Lb ≠ b) (v : Value) : NInv B (w.setCell ⟨b, o, none⟩ v) Lb nc kk nn S E cv h := by
  refine ⟨?_, ownsRow_setCell_below I.own hb _, fun j hj => ownsRow_setCell_below (I.chunk j hj) hb _, I.apart, I.inj, I.lt, by have := I.size; simpa [World.setCell] using this⟩
  rw [Below.heap_setCell _ _ _ _ (by exact hne)]
  exact I.lb

theorem cell_set {w : World} {b o : Nat} {x v : Value} (h : w.cell? ⟨b, o, none⟩ = some x) : (w.setCell ⟨b, o, none⟩ v).cell? ⟨b, o, none⟩ = some v :=
  World.cell?_setCell_same' w _ v (by rw [h]; rfl)

theorem cell_set_other {w : World} {b o o' : Nat} {x v : Value} (hne : o ≠ o') (h : w.cell? ⟨b, o', none⟩ = some x) : (w.setCell ⟨b, o, none⟩ v).cell? ⟨b, o', none⟩ = some x :=
  (World.cell?_setCell_other w ⟨b, o, none⟩ ⟨b, o', none⟩ v (by intro e; exact hne (congrArg Addr.off e))).trans h

theorem one_new (w : World) (o : Obj) : w.grownBy (w.alloc o).drew none := ⟨rfl, rfl, rfl, by simp, fun k hk _ => heap_alloc_old w o hk⟩

theorem two_new (w : World) (o o' : Obj) : w.grownBy ((w.alloc o).alloc o').drew none := by
  refine ⟨rfl, rfl, rfl, by simp; omega, fun k hk _ => ?_⟩
  show ((w.alloc o).alloc o').heap[k]? = w.heap[k]?
  rw [heap_alloc_old (w.alloc o) o' (by simp; omega), heap_alloc_old w o hk]

theorem first_of_two (w : World) (cs : Array Value) (t : TypeId) (o' : Obj) : ((w.alloc (.cells cs t)).alloc o').drew.heap[w.heap.size]? = some (.cells cs t (0, 0)) := by
  show ((w.alloc (.cells cs t)).alloc o').heap[w.heap.size]? = _
  rw [heap_alloc_old _ _ (by simp)]
  exact heap_alloc_new w _

/-- The block of the result, before it is written. -/
abbrev zeroList : Obj := .cells #[.slice none 0 0, .int .i64 0] 45

theorem start_inv (w : World) (S E : Nat → Int) : NInv (w.heap.size + 2) ((w.alloc zeroList).alloc zeroList) (w.heap.size + 1) 0 0 0 S E (.slice none 0 0) (fun _ => 0) := by
  refine ⟨?_, World.ownsRow_nil _ _ _ _, fun j hj => by omega, fun j hj => by omega, fun i j hi => by omega, by omega, by simp⟩
  have := heap_alloc_new (w.alloc zeroList) zeroList
  simpa using this

set_option maxRecDepth 100000 in
set_option maxHeartbeats 4000000 in
/-- zzNoteList: each note can be read through the chunks' slice that is handed back. -/
theorem notes_any (b1 o1 c1 b2 o2 c2 n : Nat) (S E : Nat → Int) (w : World) (hn : n ≤ 4194304)
    (hS : ∀ i, i < n → w.cell? ⟨b1, o1 + i, none⟩ = some (.int .i32 (S i))) (hE : ∀ i, i < n → w.cell? ⟨b2, o2 + i, none⟩ = some (.int .i32 (E i))) :
    Calls Try.prog 23 #[.slice (some ⟨b1, o1, none⟩) n c1, .slice (some ⟨b2, o2, none⟩) n c2] w fun e w' =>
      ∃ cv, e = .returned (.agg #[cv, .int .i64 n]) ∧ (∀ i, i < n → NoteV w' cv i (S i) (E i)) ∧ Below w.heap.size w w' := by
  obtain ⟨i7, hi7, hz70, hz71, hz72⟩ := info_parts Try.info57
  obtain ⟨i9, hi9, hz90, hz91, hz92⟩ := info_parts Try.info59
  have hmk : ∀ w, (Instr.makeSlice 57 (.int .i64 0) (.int .i64 1024)).run Try.prog w = .ok (.slice (some ⟨w.heap.size, 0, none⟩) 0 1024) (w.alloc (.cells chunk0 59)) := make_chunk
  have HS0 : Hid (∀ i, i < n → w.cell? ⟨b1, o1 + i, none⟩ = some (.int .i32 (S i))) := hS
  have HE0 : Hid (∀ i, i < n → w.cell? ⟨b2, o2 + i, none⟩ = some (.int .i32 (E i))) := hE
  clear hS hE
  go_enter Try.func23, Try.ntmps23
  go_wp2_with fail
  go_loopw [6] (fun t wr => ∃ (k : Nat) (cv : Value) (h : Nat → Nat), k ≤ n ∧ t = .int .i64 k ∧ NInv (w.heap.size + 2) wr (w.heap.size + 1) (nch k) k k S E cv h ∧ Below (w.heap.size + 1) (w.alloc zeroList) wr)
    (fun t _ => n - (intOf t).toNat)
  case atStart => exact ⟨0, _, _, Nat.zero_le _, rfl, start_inv w S E, (Below.refl _ _).alloc (by simp) _⟩
  case round =>
    obtain ⟨k, cv, h, hk, rfl, I, hbel⟩ := hrel
    by_cases hkn : k < n
    · have hki : (k : Int) < (n : Int) := by omega
      obtain ⟨l, c, hlc, hc1⟩ : ∃ l c, k = 1024 * l + c ∧ c < 1024 := ⟨k / 1024, k % 1024, by omega, by omega⟩
      have HL : Hid (k = 1024 * l + c) := hlc
      have hl9 : l ≤ 4096 := by omega
      have II : Hid (NInv (w.heap.size + 2) wr (w.heap.size + 1) (nch k) k k S E cv h) := I
      have HB : Hid (Below (w.heap.size + 1) (w.alloc zeroList) wr) := hbel
      clear hlc I hbel
      go_upto_if 22 with fail
      go_cut [] from 8 to 56 (fun wx => ∃ (cv' : Value) (h' : Nat → Nat), NInv (w.heap.size + 2) wx (w.heap.size + 1) (l + 1) k k S E cv' h' ∧ Below (w.heap.size + 1) (w.alloc zeroList) wx)
      case first =>
        by_cases hm : k % 1024 = 0
        · have hm' : ((k : Int) % 1024 == 0) = true := by simp; omega
          have hcl : Hid (nch k = l) := by have := HL.out; unfold nch; show _ = _; omega
          have hI := II.out
          rw [hcl.out] at hI
          have II' : Hid (NInv (w.heap.size + 2) wr (w.heap.size + 1) l k k S E cv h) := hI
          have hk0 : Hid (cnt k l = 0) := by have := HL.out; unfold cnt; show _ = _; omega
          have hc0 := hI.cell0
          have hf0 := hI.frozen 0
          have hlb := hI.lbNot
          have hsz := hI.size
          have hlt0 : w.heap.size + 1 < wr.heap.size := by omega
          clear hI
          go_wp2_with fail
          refine wp_region_X (by kernel_rfl) (fun w' => w'.cell? ⟨w.heap.size + 1, 0, none⟩ = some cv) (fun j => j == 6) ?_
          have HS : wr.drew.cell? ⟨w.heap.size + 1, 0, none⟩ = some cv := hc0
          refine wpAnyX_take (i := 0) (v := ?_) rfl (by kernel_rfl) (by kernel_rfl) (by kernel_rfl) (by kernel_rfl) rfl (fun _ _ _ h => h) HS (Or.inl ⟨by rfl, ?_⟩) ?_
          rotate_left
          · (intro w hSw; (try dsimp only at hSw); go_simp <;> rfl)
          simp only [Act.put, List.setIfInBounds_toArray, List.set_cons_zero, List.set_cons_succ, List.getElem_toArray, List.getElem_cons_zero]
          refine wpAnyX_take (i := 1) (v := ?_) rfl (by kernel_rfl) (by kernel_rfl) (by kernel_rfl) (by kernel_rfl) rfl (fun _ _ _ h => h) HS (Or.inl ⟨by rfl, ?_⟩) ?_
          rotate_left
          · (intro w hSw; (try dsimp only at hSw); go_simp <;> rfl)
          simp only [Act.put, List.setIfInBounds_toArray, List.set_cons_zero, List.set_cons_succ, List.getElem_toArray, List.getElem_cons_zero, List.getElem_cons_succ]
          refine wpAnyX_one (i := 2) (by kernel_rfl) rfl (fun K hK => ?_)
          go_simp
          refine hK.out _ _ (fun _ => cell_later ((Below.refl _ _).alloc (Nat.le_refl _) _).drew hc0) ?_
          clear hK K
          refine wpAnyX_one (i := 3) (by kernel_rfl) rfl (fun K hK => ?_)
          go_simp
          refine hK.out _ _ (fun _ => cell_later (((Below.refl _ _).alloc (Nat.le_refl _) _).alloc (by simp) _).drew hc0) ?_
          clear hK K
          refine wpAnyX_one (i := 4) (by kernel_rfl) rfl (fun K hK => ?_)
          refine step_append_lies _ (by rfl) _ _ _ (by rfl) (w.heap.size + 2) 57 i7 _ 1 24 Try.underlying43 hi7 hz70 hz71 hz72 rfl (by omega) cv l (rows h k l) (by rfl) (((II'.out.own.alloc _).alloc _).drew) ⟨wr.heap.size + 1, 0, none⟩ 1 1 [.slice (some ⟨wr.heap.size, 0, none⟩) 0 1024] (by rfl) (by rfl) (World.news_of_block (cs := #[.slice (some ⟨wr.heap.size, 0, none⟩) 0 1024]) (t := 57) (fr := (0, 0)) (new_second wr _ _ _)) (by simp [Value.oneCell']) (by omega) (by unfold maxLen; omega) (by omega) (by simp; omega) (wr.heap.size + 2) (by simp) ?_
          intro g cap w3 hown3 hg3 hat hlt
          have c3 : w3.cell? ⟨w.heap.size + 1, 0, none⟩ = some cv := (hg3.cell_far _ (by simp; omega) hlb).trans (cell_later (((Below.refl _ _).alloc (Nat.le_refl _) _).alloc (by simp) _).drew hc0)
          have f3 : w3.frozen? ⟨w.heap.size + 1, 0, none⟩ = false := (hg3.frozen_far _ (by simp; omega) hlb).trans (frozen_later hf0 hlt0 (((Below.refl _ _).alloc (Nat.le_refl _) _).alloc (by simp) _).drew)
          refine hK.out _ _ (fun _ => c3) ?_
          clear hK K
          simp only [Act.put, List.setIfInBounds_toArray, List.set_cons_zero, List.set_cons_succ, List.getElem_toArray, List.getElem_cons_zero, List.getElem_cons_succ]
          refine wpAnyX_take (i := 5) (v := ?_) rfl (by kernel_rfl) (by kernel_rfl) (by kernel_rfl) (by kernel_rfl) rfl (fun _ _ _ h => h) c3 (Or.inl ⟨by rfl, ?_⟩) ?_
          rotate_left
          · (intro w hSw; (try dsimp only at hSw); go_simp <;> rfl)
          simp only [Act.put, List.setIfInBounds_toArray, List.set_cons_zero, List.set_cons_succ, List.getElem_toArray, List.getElem_cons_zero, List.getElem_cons_succ]
          refine wpAnyX_one (i := 6) (by kernel_rfl) rfl (fun K hK => ?_)
          go_simp
          refine hK.out _ _ (fun h => by cases h) ?_
          clear hK K
          refine wpAnyX_done (by kernel_rfl) ?_ _
          go_wp2_with fail
          go_meet
          case rel =>
            have hgw : wr.grownBy ((wr.alloc (.cells chunk0 59)).alloc (.cells #[.slice (some ⟨wr.heap.size, 0, none⟩) 0 1024] 57)).drew none := two_new wr _ _
            refine ⟨_, _, II'.out.grow hk0.out (H := wr.heap.size) (cs := chunk0) hgw (Nat.le_refl _) (first_of_two wr _ _ _) chunk0_size hown3 hg3 (hat.elim Or.inl (fun e => Or.inr (by rw [e]; simp))), ?_⟩
            refine (((((HB.out.alloc (by have := HB.out.size; simp at this; simp; omega) _).alloc (by have := HB.out.size; simp at this; simp; omega) _).drew).grown hg3 (by simp; omega) ?_).setCell (by simp) _)
            intro k' hk'
            have := (II'.out.own.lt k' hk').1
            omega
        · have hm' : ((k : Int) % 1024 == 0) = false := by simp; omega
          have hcl : Hid (nch k = l + 1) := by have := HL.out; unfold nch; show _ = _; omega
          have hI := II.out
          rw [hcl.out] at hI
          have II' : Hid (NInv (w.heap.size + 2) wr (w.heap.size + 1) (l + 1) k k S E cv h) := hI
          clear hI
          go_wp2_with fail
          go_meet
          case rel => exact ⟨cv, h, II'.out, HB.out⟩
      case rest =>
        obtain ⟨cv', h', I, hbel⟩ := hcut
        clear II HB
        obtain ⟨g, cap, hcv, hgB, hgl⟩ := I.own.form (by omega)
        subst hcv
        have hc0 := I.cell0
        have hsz := I.size
        have hcl : cnt k l = c := by have := HL.out; unfold cnt; omega
        have hchl : wc.cell? ⟨g, l, none⟩ = some (.slice (some ⟨h' l, 0, none⟩) c 1024) := by
          rw [I.own.cellAt l (by omega), rows_at _ _ _ _ (by omega), hcl]
        have hfg := I.own.frozenAt l
        have hchunk := I.chunk l (by omega)
        rw [hcl] at hchunk
        have hhl := I.apart l (by omega)
        have hhB := (hchunk.lt (h' l) rfl).1
        have II : Hid (NInv (w.heap.size + 2) wc (w.heap.size + 1) (l + 1) k k S E (.slice (some ⟨g, 0, none⟩) (l + 1) cap) h') := I
        have HB : Hid (Below (w.heap.size + 1) (w.alloc zeroList) wc) := hbel
        have HCH : Hid (wc.ownsRow (w.heap.size + 2) 59 2 (.slice (some ⟨h' l, 0, none⟩) c 1024) c (noteCells S E (1024 * l) c)) := hchunk
        have hgh : g ≠ h' l := fun e => hhl (by rw [← e]; rfl)
        have hSk : wc.cell? ⟨b1, o1 + k, none⟩ = some (.int .i32 (S k)) := by
          have c0 := HS0.out k hkn
          exact (hbel.cell (p := ⟨b1, o1 + k, none⟩) (by have := World.block_lt_of_cell? w _ c0; show b1 < _; simp at this; omega)).trans (cell_later ((Below.refl _ _).alloc (Nat.le_refl _) _) c0)
        have hEk : wc.cell? ⟨b2, o2 + k, none⟩ = some (.int .i32 (E k)) := by
          have c0 := HE0.out k hkn
          exact (hbel.cell (p := ⟨b2, o2 + k, none⟩) (by have := World.block_lt_of_cell? w _ c0; show b2 < _; simp at this; omega)).trans (cell_later ((Below.refl _ _).alloc (Nat.le_refl _) _) c0)
        have hb1 := World.block_lt_of_cell? w _ (HS0.out k hkn)
        have hb2 := World.block_lt_of_cell? w _ (HE0.out k hkn)
        simp only at hb1 hb2
        have hl1 : (l : Int) < (l : Int) + 1 := by omega
        have hl0 : (0 : Int) ≤ (l : Int) := by omega
        clear I hbel hchunk hhl hcl
        go_wp2_with fail
        refine wp_region_X (by kernel_rfl) (fun w' => w'.cell? ⟨w.heap.size + 1, 0, none⟩ = some (.slice (some ⟨g, 0, none⟩) (l + 1) cap) ∧ w'.cell? ⟨g, l, none⟩ = some (.slice (some ⟨h' l, 0, none⟩) c 1024) ∧ w'.cell? ⟨b1, o1 + k, none⟩ = some (.int .i32 (S k)) ∧ w'.cell? ⟨b2, o2 + k, none⟩ = some (.int .i32 (E k))) (fun j => j == 20) ?_
        have HS : wc.drew.cell? ⟨w.heap.size + 1, 0, none⟩ = some (.slice (some ⟨g, 0, none⟩) (l + 1) cap) ∧ wc.drew.cell? ⟨g, l, none⟩ = some (.slice (some ⟨h' l, 0, none⟩) c 1024) ∧ wc.drew.cell? ⟨b1, o1 + k, none⟩ = some (.int .i32 (S k)) ∧ wc.drew.cell? ⟨b2, o2 + k, none⟩ = some (.int .i32 (E k)) := ⟨hc0, hchl, hSk, hEk⟩
        refine wpAnyX_take (i := 0) (v := ?_) rfl (by kernel_rfl) (by kernel_rfl) (by kernel_rfl) (by kernel_rfl) rfl (fun _ _ _ h => h) HS (Or.inl ⟨by rfl, ?_⟩) ?_
        rotate_left
        · (intro w hSw; (try dsimp only at hSw); go_simp <;> rfl)
        simp only [Act.put, List.setIfInBounds_toArray, List.set_cons_zero, List.set_cons_succ, List.getElem_toArray, List.getElem_cons_zero]
        refine wpAnyX_take (i := 1) (v := ?_) rfl (by kernel_rfl) (by kernel_rfl) (by kernel_rfl) (by kernel_rfl) rfl (fun _ _ _ h => h) HS (Or.inl ⟨by rfl, ?_⟩) ?_
        rotate_left
        · (intro w hSw; (try dsimp only at hSw); go_simp <;> rfl)
        simp only [Act.put, List.setIfInBounds_toArray, List.set_cons_zero, List.set_cons_succ, List.getElem_toArray, List.getElem_cons_zero, List.getElem_cons_succ]
        refine wpAnyX_take (i := 2) (v := ?_) rfl (by kernel_rfl) (by kernel_rfl) (by kernel_rfl) (by kernel_rfl) rfl (fun _ _ _ h => h) HS (Or.inl ⟨by rfl, ?_⟩) ?_
        rotate_left
        · (intro w hSw; (try dsimp only at hSw); go_simp <;> rfl)
        simp only [Act.put, List.setIfInBounds_toArray, List.set_cons_zero, List.set_cons_succ, List.getElem_toArray, List.getElem_cons_zero, List.getElem_cons_succ]
        refine wpAnyX_take (i := 3) (v := ?_) rfl (by kernel_rfl) (by kernel_rfl) (by kernel_rfl) (by kernel_rfl) rfl (fun _ _ _ h => h) HS (Or.inl ⟨by rfl, ?_⟩) ?_
        rotate_left
        · (intro w hSw; (try dsimp only at hSw); go_simp <;> rfl)
        simp only [Act.put, List.setIfInBounds_toArray, List.set_cons_zero, List.set_cons_succ, List.getElem_toArray, List.getElem_cons_zero, List.getElem_cons_succ]
        refine wpAnyX_take (i := 4) (v := ?_) rfl (by kernel_rfl) (by kernel_rfl) (by kernel_rfl) (by kernel_rfl) rfl (fun _ _ _ h => h) HS (Or.inl ⟨by rfl, ?_⟩) ?_
        rotate_left
        · (intro w hSw; (try dsimp only at hSw); go_simp <;> rfl)
        simp only [Act.put, List.setIfInBounds_toArray, List.set_cons_zero, List.set_cons_succ, List.getElem_toArray, List.getElem_cons_zero, List.getElem_cons_succ]
        refine wpAnyX_take (i := 5) (v := ?_) rfl (by kernel_rfl) (by kernel_rfl) (by kernel_rfl) (by kernel_rfl) rfl (fun _ _ _ h => h) HS (Or.inl ⟨by rfl, ?_⟩) ?_
        rotate_left
        · (intro w hSw; (try dsimp only at hSw); go_simp <;> rfl)
        simp only [Act.put, List.setIfInBounds_toArray, List.set_cons_zero, List.set_cons_succ, List.getElem_toArray, List.getElem_cons_zero, List.getElem_cons_succ]
        refine wpAnyX_take (i := 6) (v := ?_) rfl (by kernel_rfl) (by kernel_rfl) (by kernel_rfl) (by kernel_rfl) rfl (fun _ _ _ h => h) HS (Or.inl ⟨by rfl, ?_⟩) ?_
        rotate_left
        · (intro w hSw; (try dsimp only at hSw); go_simp <;> rfl)
        simp only [Act.put, List.setIfInBounds_toArray, List.set_cons_zero, List.set_cons_succ, List.getElem_toArray, List.getElem_cons_zero, List.getElem_cons_succ]
        refine wpAnyX_take (i := 7) (v := ?_) rfl (by kernel_rfl) (by kernel_rfl) (by kernel_rfl) (by kernel_rfl) rfl (fun _ _ _ h => h) HS (Or.inl ⟨by rfl, ?_⟩) ?_
        rotate_left
        · (intro w hSw; (try dsimp only at hSw); go_simp <;> rfl)
        simp only [Act.put, List.setIfInBounds_toArray, List.set_cons_zero, List.set_cons_succ, List.getElem_toArray, List.getElem_cons_zero, List.getElem_cons_succ]
        refine wpAnyX_take (i := 8) (v := ?_) rfl (by kernel_rfl) (by kernel_rfl) (by kernel_rfl) (by kernel_rfl) rfl (fun _ _ _ h => h) HS (Or.inl ⟨by rfl, ?_⟩) ?_
        rotate_left
        · (intro w hSw; (try dsimp only at hSw); go_simp <;> rfl)
        simp only [Act.put, List.setIfInBounds_toArray, List.set_cons_zero, List.set_cons_succ, List.getElem_toArray, List.getElem_cons_zero, List.getElem_cons_succ]
        refine wpAnyX_take (i := 9) (v := ?_) rfl (by kernel_rfl) (by kernel_rfl) (by kernel_rfl) (by kernel_rfl) rfl (fun _ _ _ h => h) HS (Or.inl ⟨by rfl, ?_⟩) ?_
        rotate_left
        · (intro w hSw; (try dsimp only at hSw); go_simp <;> rfl)
        simp only [Act.put, List.setIfInBounds_toArray, List.set_cons_zero, List.set_cons_succ, List.getElem_toArray, List.getElem_cons_zero, List.getElem_cons_succ]
        refine wpAnyX_take (i := 10) (v := ?_) rfl (by kernel_rfl) (by kernel_rfl) (by kernel_rfl) (by kernel_rfl) rfl (fun _ _ _ h => h) HS (Or.inl ⟨by rfl, ?_⟩) ?_
        rotate_left
        · (intro w hSw; (try dsimp only at hSw); go_simp <;> rfl)
        simp only [Act.put, List.setIfInBounds_toArray, List.set_cons_zero, List.set_cons_succ, List.getElem_toArray, List.getElem_cons_zero, List.getElem_cons_succ]
        refine wpAnyX_take (i := 11) (v := ?_) rfl (by kernel_rfl) (by kernel_rfl) (by kernel_rfl) (by kernel_rfl) rfl (fun _ _ _ h => h) HS (Or.inl ⟨by rfl, ?_⟩) ?_
        rotate_left
        · (intro w hSw; (try dsimp only at hSw); go_simp <;> rfl)
        simp only [Act.put, List.setIfInBounds_toArray, List.set_cons_zero, List.set_cons_succ, List.getElem_toArray, List.getElem_cons_zero, List.getElem_cons_succ]
        refine wpAnyX_take (i := 12) (v := ?_) rfl (by kernel_rfl) (by kernel_rfl) (by kernel_rfl) (by kernel_rfl) rfl (fun _ _ _ h => h) HS (Or.inl ⟨by rfl, ?_⟩) ?_
        rotate_left
        · (intro w hSw; (try dsimp only at hSw); go_simp <;> rfl)
        simp only [Act.put, List.setIfInBounds_toArray, List.set_cons_zero, List.set_cons_succ, List.getElem_toArray, List.getElem_cons_zero, List.getElem_cons_succ]
        refine wpAnyX_take (i := 13) (v := ?_) rfl (by kernel_rfl) (by kernel_rfl) (by kernel_rfl) (by kernel_rfl) rfl (fun _ _ _ h => h) HS (Or.inl ⟨by rfl, ?_⟩) ?_
        rotate_left
        · (intro w hSw; (try dsimp only at hSw); go_simp <;> rfl)
        simp only [Act.put, List.setIfInBounds_toArray, List.set_cons_zero, List.set_cons_succ, List.getElem_toArray, List.getElem_cons_zero, List.getElem_cons_succ]
        refine wpAnyX_take (i := 14) (v := ?_) rfl (by kernel_rfl) (by kernel_rfl) (by kernel_rfl) (by kernel_rfl) rfl (fun _ _ _ h => h) HS (Or.inl ⟨by rfl, ?_⟩) ?_
        rotate_left
        · (intro w hSw; (try dsimp only at hSw); go_simp <;> rfl)
        simp only [Act.put, List.setIfInBounds_toArray, List.set_cons_zero, List.set_cons_succ, List.getElem_toArray, List.getElem_cons_zero, List.getElem_cons_succ]
        refine wpAnyX_take (i := 15) (v := ?_) rfl (by kernel_rfl) (by kernel_rfl) (by kernel_rfl) (by kernel_rfl) rfl (fun _ _ _ h => h) HS (Or.inl ⟨by rfl, ?_⟩) ?_
        rotate_left
        · (intro w hSw; (try dsimp only at hSw); go_simp <;> rfl)
        simp only [Act.put, List.setIfInBounds_toArray, List.set_cons_zero, List.set_cons_succ, List.getElem_toArray, List.getElem_cons_zero, List.getElem_cons_succ]
        refine wpAnyX_take (i := 16) (v := ?_) rfl (by kernel_rfl) (by kernel_rfl) (by kernel_rfl) (by kernel_rfl) rfl (fun _ _ _ h => h) HS (Or.inl ⟨by rfl, ?_⟩) ?_
        rotate_left
        · (intro w hSw; (try dsimp only at hSw); go_simp <;> rfl)
        simp only [Act.put, List.setIfInBounds_toArray, List.set_cons_zero, List.set_cons_succ, List.getElem_toArray, List.getElem_cons_zero, List.getElem_cons_succ]
        refine wpAnyX_one (i := 17) (by kernel_rfl) rfl (fun K hK => ?_)
        go_simp
        have HS2 : (wc.alloc (Obj.cells #[Value.int IntKind.i32 (S k), Value.int IntKind.i32 (E k)] 59)).drew.cell? ⟨w.heap.size + 1, 0, none⟩ = some (.slice (some ⟨g, 0, none⟩) (l + 1) cap) ∧ (wc.alloc (Obj.cells #[Value.int IntKind.i32 (S k), Value.int IntKind.i32 (E k)] 59)).drew.cell? ⟨g, l, none⟩ = some (.slice (some ⟨h' l, 0, none⟩) c 1024) ∧ (wc.alloc (Obj.cells #[Value.int IntKind.i32 (S k), Value.int IntKind.i32 (E k)] 59)).drew.cell? ⟨b1, o1 + k, none⟩ = some (.int .i32 (S k)) ∧ (wc.alloc (Obj.cells #[Value.int IntKind.i32 (S k), Value.int IntKind.i32 (E k)] 59)).drew.cell? ⟨b2, o2 + k, none⟩ = some (.int .i32 (E k)) :=
          ⟨cell_later ((Below.refl _ _).alloc (Nat.le_refl _) _).drew hc0, cell_later ((Below.refl _ _).alloc (Nat.le_refl _) _).drew hchl, cell_later ((Below.refl _ _).alloc (Nat.le_refl _) _).drew hSk, cell_later ((Below.refl _ _).alloc (Nat.le_refl _) _).drew hEk⟩
        refine hK.out _ _ (fun _ => HS2) ?_
        clear hK K
        refine wpAnyX_one (i := 18) (by kernel_rfl) rfl (fun K hK => ?_)
        refine step_append_fits _ (by rfl) _ _ _ (by rfl) (w.heap.size + 2) 59 i9 2 Try.underlying57 hi9 hz91 (h' l) c 1024 (noteCells S E (1024 * l) c) (by rfl) ((HCH.out.alloc _).drew) ⟨wc.heap.size, 0, none⟩ 1 1 [.int .i32 (S k), .int .i32 (E k)] (by rfl) (by rfl) (World.news_of_block (cs := #[.int .i32 (S k), .int .i32 (E k)]) (t := 59) (fr := (0, 0)) (heap_alloc_new wc _)) (by simp [Value.oneCell']) (by omega) ?_
        intro w3 hown3 hg3
        have far : ∀ b o, b < wc.heap.size → b ≠ h' l → w3.cell? ⟨b, o, none⟩ = wc.cell? ⟨b, o, none⟩ := fun b o h1 h2 => (hg3.cell_far ⟨b, o, none⟩ (by simp; omega) (fun e => h2 (Option.some.inj e))).trans (((Below.refl _ _).alloc (Nat.le_refl _) _).drew.cell (p := ⟨b, o, none⟩) h1)
        have hbw : w.heap.size + 2 ≤ wc.heap.size := II.out.size
        have HS3 : w3.cell? ⟨w.heap.size + 1, 0, none⟩ = some (.slice (some ⟨g, 0, none⟩) (l + 1) cap) ∧ w3.cell? ⟨g, l, none⟩ = some (.slice (some ⟨h' l, 0, none⟩) c 1024) ∧ w3.cell? ⟨b1, o1 + k, none⟩ = some (.int .i32 (S k)) ∧ w3.cell? ⟨b2, o2 + k, none⟩ = some (.int .i32 (E k)) :=
          ⟨(far _ _ (by omega) (by omega)).trans hc0, (far _ _ (by omega) hgh).trans hchl, (far _ _ (by omega) (by omega)).trans hSk, (far _ _ (by omega) (by omega)).trans hEk⟩
        have hfg3 : w3.frozen? ⟨g, l, none⟩ = false := (hg3.frozen_far ⟨g, l, none⟩ (by simp; omega) (fun e => hgh (Option.some.inj e))).trans (frozen_later hfg (by omega) ((Below.refl _ _).alloc (Nat.le_refl _) _).drew)
        have hcg3 := HS3.2.1
        clear far
        refine hK.out _ _ (fun _ => HS3) ?_
        clear hK K
        simp only [Act.put, List.setIfInBounds_toArray, List.set_cons_zero, List.set_cons_succ, List.getElem_toArray, List.getElem_cons_zero, List.getElem_cons_succ]
        refine wpAnyX_take (i := 19) (v := ?_) rfl (by kernel_rfl) (by kernel_rfl) (by kernel_rfl) (by kernel_rfl) rfl (fun _ _ _ h => h) HS3 (Or.inl ⟨by rfl, ?_⟩) ?_
        rotate_left
        · (intro w hSw; (try dsimp only at hSw); go_simp <;> rfl)
        simp only [Act.put, List.setIfInBounds_toArray, List.set_cons_zero, List.set_cons_succ, List.getElem_toArray, List.getElem_cons_zero, List.getElem_cons_succ]
        refine wpAnyX_one (i := 20) (by kernel_rfl) rfl (fun K hK => ?_)
        go_simp
        refine hK.out _ _ (fun h => by cases h) ?_
        clear hK K
        refine wpAnyX_done (by kernel_rfl) ?_ _
        have J := II.out.push (l := l) (c := c) rfl HL.out hc1 rfl (one_new wc _) hown3 hg3
        have j1 := J.cell1
        have jf := J.frozen 1
        have JJ : Hid (NInv (w.heap.size + 2) (w3.setCell ⟨g, l, none⟩ (.slice (some ⟨h' l, 0, none⟩) (c + 1) 1024)) (w.heap.size + 1) (l + 1) (k + 1) k S E (.slice (some ⟨g, 0, none⟩) (l + 1) cap) h') := J
        have HB3 : Hid (Below (w.heap.size + 1) (w.alloc zeroList) (w3.setCell ⟨g, l, none⟩ (.slice (some ⟨h' l, 0, none⟩) (c + 1) 1024))) := by
          refine ((((HB.out.alloc (by omega) _).drew).grown hg3 (by simp; omega) ?_).setCell (by show w.heap.size + 1 ≤ g; omega) _)
          intro k' hk'
          have : k' = h' l := (Option.some.inj hk').symm
          omega
        clear J hown3 hg3 HS HS2 HS3 hcg3 hfg3 hchl hfg hSk hEk hc0
        go_wp2
        go_roundw
        case rel =>
          refine ⟨k + 1, .slice (some ⟨g, 0, none⟩) (l + 1) cap, h', by omega, by go_num, ?_, HB3.out.setCell (by show w.heap.size + 1 ≤ w.heap.size + 1; omega) _⟩
          have e : nch (k + 1) = l + 1 := by have := HL.out; unfold nch; omega
          rw [e]
          have := JJ.out.count (((k + 1 : Nat)) : Int)
          simpa using this
        case measure => simp [intOf]; omega
    · have hI : NInv (w.heap.size + 2) wr (w.heap.size + 1) (nch k) k k S E cv h := I
      obtain ⟨ao, an, ac, hcv⟩ : ∃ ao an ac, cv = .slice ao an ac := by
        rcases hI.own.2 with ⟨e, _⟩ | ⟨g, cap, _, e, _⟩
        · exact ⟨_, _, _, e⟩
        · exact ⟨_, _, _, e⟩
      subst hcv
      have z0 : wr.cell? ⟨w.heap.size, 0, none⟩ = some (.slice none 0 0) := (hbel.cell (p := ⟨w.heap.size, 0, none⟩) (by simp)).trans (by simp [zeroList])
      have z1 : wr.cell? ⟨w.heap.size, 1, none⟩ = some (.int .i64 0) := (hbel.cell (p := ⟨w.heap.size, 1, none⟩) (by simp)).trans (by simp [zeroList])
      have f0 : wr.frozen? ⟨w.heap.size, 0, none⟩ = false := (hbel.frozen (p := ⟨w.heap.size, 0, none⟩) (by simp)).trans (by simp [zeroList])
      have f1 : wr.frozen? ⟨w.heap.size, 1, none⟩ = false := (hbel.frozen (p := ⟨w.heap.size, 1, none⟩) (by simp)).trans (by simp [zeroList])
      have c0 := hI.cell0
      have c1' := hI.cell1
      have hkk : k = n := by omega
      subst hkk
      have II : Hid (NInv (w.heap.size + 2) wr (w.heap.size + 1) (nch k) k k S E (.slice ao an ac) h) := hI
      have HB : Hid (Below (w.heap.size + 1) (w.alloc zeroList) wr) := hbel
      clear hI hbel I
      go_wp2
      have q0 : (wr.setCell ⟨w.heap.size, 0, none⟩ (.slice ao an ac)).cell? ⟨w.heap.size, 0, none⟩ = some (.slice ao an ac) := cell_set z0
      have z1' : (wr.setCell ⟨w.heap.size, 0, none⟩ (.slice ao an ac)).cell? ⟨w.heap.size, 1, none⟩ = some (.int .i64 0) := cell_set_other (by omega) z1
      have q1 : ((wr.setCell ⟨w.heap.size, 0, none⟩ (.slice ao an ac)).setCell ⟨w.heap.size, 1, none⟩ (.int .i64 k)).cell? ⟨w.heap.size, 1, none⟩ = some (.int .i64 k) := cell_set z1'
      refine bodyPost_ret (v := .agg #[.slice ao an ac, .int .i64 k]) (by simp [results, Try.results23, go_sem, q0, q1]) rfl ⟨_, rfl, fun i hi => ?_, ?_⟩
      · exact ((II.out.setBelow (by omega) (by omega) _).setBelow (by omega) (by omega) _).note (by unfold nch; omega) hi
      · have b0 : Below w.heap.size w wr := ((Below.refl _ _).alloc (Nat.le_refl _) _).trans (HB.out.mono (by omega))
        exact (b0.setCell (Nat.le_refl _) _).setCell (Nat.le_refl _) _

end Go.Proofs.Qxb6000404a
