import Derived.Test.Qxb6614661aRXr
import Derived.Test.Qxb6614661aRXg
import Derived.Test.Qxb6614661aRXpop
namespace Go.Proofs.Qxb6614661aR
open Go.RowKit
attribute [local go_sem ↓] Go.wp_at_zero Go.wp_at_succ

@[local go_sem] theorem storeFn (P : Program) (w : World) (a : Addr) (m : Mode) (fn : Fn) (f c : Array Value) : (store a (.func fn f c) m).run P w = stored P w a (.func fn f c) m := run_store P w a _ m rfl

def Post37 (S : Sp) (w : World) (e : Ending) (w' : World) : Prop := ∃ S' : Sp, e = .returned S'.val ∧ (∀ wj, Kp w.heap.size w' wj → S'.lies wj) ∧ Bare S S' ∧ Below w.heap.size w w'

set_option maxRecDepth 100000 in
set_option maxHeartbeats 16000000 in
theorem w37 (S : Sp) (w : World) (hS : S.lies w) (hsm : S.small) : Calls Try.prog 37 #[S.val] w (Post37 S w) := by
  have HS0 := hid hS
  have SM := hid hsm
  clear hS hsm
  obtain ⟨⟨pa, pn, pc⟩, P, ⟨ra, rn, rc⟩, rv, R, ⟨ua, un, uc⟩, uv, U, ⟨ga, gn, gc⟩, gv, G, ⟨xa, xn, xc⟩, xv, X, ⟨ya, yn, yc⟩, yv, Y⟩ := S
  unfold Sp.val
  dsimp only
  obtain ⟨wa, hwa⟩ : ∃ wa, w.alloc (Obj.cells #[.slice pa pn pc, .slice ra rn rc, .slice ua un uc, .slice ga gn gc, .slice xa xn xc, .slice ya yn yc] 37) = wa := ⟨_, rfl⟩
  obtain ⟨wb, hwb⟩ : ∃ wb, wa.alloc (Obj.cells #[.slice none 0 0, .slice none 0 0, .slice none 0 0, .slice none 0 0, .slice none 0 0, .slice none 0 0] 37) = wb := ⟨_, rfl⟩
  obtain ⟨wc, hwc⟩ : ∃ wc, wb.alloc (Obj.cells #[.nilFunc] 101) = wc := ⟨_, rfl⟩
  obtain ⟨wd, hwd⟩ : ∃ wd, wc.setCell ⟨w.heap.size + 1 + 1, 0, none⟩ (.func (.func 55) #[] #[]) = wd := ⟨_, rfl⟩
  obtain ⟨we, hwe⟩ : ∃ we, wd.alloc (Obj.cells #[.nilFunc] 102) = we := ⟨_, rfl⟩
  obtain ⟨wf, hwf⟩ : ∃ wf, we.setCell ⟨w.heap.size + 1 + 1 + 1, 0, none⟩ (.func (.func 56) #[] #[.pointer (some ⟨w.heap.size + 1 + 1, 0, none⟩)]) = wf := ⟨_, rfl⟩
  have sa : wa.heap.size = w.heap.size + 1 := by rw [← hwa]; simp
  have sb : wb.heap.size = w.heap.size + 1 + 1 := by rw [← hwb]; simp [sa]
  have sc : wc.heap.size = w.heap.size + 1 + 1 + 1 := by rw [← hwc]; simp [sb]
  have sd : wd.heap.size = w.heap.size + 1 + 1 + 1 := by rw [← hwd]; simp [sc]
  have bwa : Below w.heap.size w wa := by rw [← hwa]; exact (Below.refl _ _).alloc (Nat.le_refl _) _
  have bwb : Below wa.heap.size wa wb := by rw [← hwb]; exact (Below.refl _ _).alloc (Nat.le_refl _) _
  have bwc : Below wb.heap.size wb wc := by rw [← hwc]; exact (Below.refl _ _).alloc (Nat.le_refl _) _
  have bwe : Below wd.heap.size wd we := by rw [← hwe]; exact (Below.refl _ _).alloc (Nat.le_refl _) _
  have K1 : Blk wc (w.heap.size + 1 + 1) 101 #[.nilFunc] := by have h := blk_new wb 101 #[.nilFunc]; rw [hwc, sb] at h; exact h
  have K2 : Blk we (w.heap.size + 1 + 1 + 1) 102 #[.nilFunc] := by have h := blk_new wd 102 #[.nilFunc]; rw [hwe, sd] at h; exact h
  have c1 : wc.cell? ⟨w.heap.size + 1 + 1, 0, none⟩ = some .nilFunc := K1.cell 0 _ rfl
  have z1 : wc.frozen? ⟨w.heap.size + 1 + 1, 0, none⟩ = false := K1.frozen 0
  have c2 : we.cell? ⟨w.heap.size + 1 + 1 + 1, 0, none⟩ = some .nilFunc := K2.cell 0 _ rfl
  have z2 : we.frozen? ⟨w.heap.size + 1 + 1 + 1, 0, none⟩ = false := K2.frozen 0
  have CL0 : Cl37 w #[.slice pa pn pc, .slice ra rn rc, .slice ua un uc, .slice ga gn gc, .slice xa xn xc, .slice ya yn yc] wf := by
    have bd : Below w.heap.size w wd := by rw [← hwd]; exact ((bwa.trans (bwb.mono (by omega))).trans (bwc.mono (by omega))).setCell (p := ⟨w.heap.size + 1 + 1, 0, none⟩) (by show w.heap.size ≤ w.heap.size + 1 + 1; omega) _
    have hx : Blk wc w.heap.size 37 #[.slice pa pn pc, .slice ra rn rc, .slice ua un uc, .slice ga gn gc, .slice xa xn xc, .slice ya yn yc] := by have h := blk_new w 37 #[.slice pa pn pc, .slice ra rn rc, .slice ua un uc, .slice ga gn gc, .slice xa xn xc, .slice ya yn yc]; rw [hwa] at h; exact (h.next bwb).next bwc
    have hr : Blk wc (w.heap.size + 1) 37 nil6 := by have h := blk_new wa 37 nil6; rw [show wa.alloc (Obj.cells nil6 37) = wb from hwb, sa] at h; exact h.next bwc
    have hx2 : Blk wd w.heap.size 37 #[.slice pa pn pc, .slice ra rn rc, .slice ua un uc, .slice ga gn gc, .slice xa xn xc, .slice ya yn yc] := hwd ▸ hx.far _ _ (by show _ ≠ w.heap.size + 1 + 1; omega)
    have hr2 : Blk wd (w.heap.size + 1) 37 nil6 := hwd ▸ hr.far _ _ (by show _ ≠ w.heap.size + 1 + 1; omega)
    have hf2 : Blk wd (w.heap.size + 1 + 1) 101 #[.func (.func 55) #[] #[]] := hwd ▸ K1.set 0 _
    rw [← hwf]
    refine ⟨(bd.trans (bwe.mono (by omega))).setCell (p := ⟨w.heap.size + 1 + 1 + 1, 0, none⟩) (by show w.heap.size ≤ w.heap.size + 1 + 1 + 1; omega) _, (hx2.next bwe).far _ _ (by show _ ≠ w.heap.size + 1 + 1 + 1; omega), (hr2.next bwe).far _ _ (by show _ ≠ w.heap.size + 1 + 1 + 1; omega), (hf2.next bwe).far _ _ (by show _ ≠ w.heap.size + 1 + 1 + 1; omega), K2.set 0 _⟩
  have CL := hid CL0
  clear CL0 K1 K2 bwa bwb bwc bwe
  go_enter Try.func37, Try.ntmps37
  have CLd : Hid (Cl37 w #[.slice pa pn pc, .slice ra rn rc, .slice ua un uc, .slice ga gn gc, .slice xa xn xc, .slice ya yn yc] wf.drew) := ⟨CL.out.below.drew, CL.out.box, CL.out.res, CL.out.fw, CL.out.fs⟩
  have q0 : wf.cell? ⟨w.heap.size, 0, none⟩ = some (.slice pa pn pc) := CL.out.box.cell 0 _ rfl
  have q4 : wf.cell? ⟨w.heap.size, 4, none⟩ = some (.slice xa xn xc) := CL.out.box.cell 4 _ rfl
  have q5 : wf.cell? ⟨w.heap.size, 5, none⟩ = some (.slice ya yn yc) := CL.out.box.cell 5 _ rfl
  have qf : wf.cell? ⟨w.heap.size + 1 + 1, 0, none⟩ = some (.func (.func 55) #[] #[]) := CL.out.fw.cell 0 _ rfl
  have qg : wf.cell? ⟨w.heap.size + 1 + 1 + 1, 0, none⟩ = some (.func (.func 56) #[] #[.pointer (some ⟨w.heap.size + 1 + 1, 0, none⟩)]) := CL.out.fs.cell 0 _ rfl
  go_wp2_with fail
  refine cut37 (F := fun O p' x' xv' y' yv' W => St37 w O #[.slice pa pn pc, .slice ra rn rc, .slice ua un uc, .slice ga gn gc, .slice xa xn xc, .slice ya yn yc] #[.slice p'.a p'.n p'.c, .slice none 0 0, .slice none 0 0, .slice none 0 0, .slice x'.a x'.n x'.c, .slice y'.a y'.n y'.c] W ∧ (p'.n = pn ∧ (pn = 0 → p' = ⟨none, 0, 0⟩)) ∧ ((x'.n = xn ∧ (xn = 0 → x' = ⟨none, 0, 0⟩)) ∧ (∀ i, i < xn → (xv' i).n = (xv i).n ∧ ((xv i).n = 0 → xv' i = ⟨none, 0, 0⟩))) ∧ ((y'.n = yn ∧ (yn = 0 → y' = ⟨none, 0, 0⟩)) ∧ (∀ i, i < yn → (yv' i).n = (yv i).n ∧ ((yv i).n = 0 → yv' i = ⟨none, 0, 0⟩))) ∧ (∀ wj, Kq (w.heap.size + 1 + 1 + 1 + 1) O W wj → Words wj p' P.bare ∧ Grants wj x' xv' X.bare ∧ Grants wj y' yv' Y.bare)) ?M ?_ ?_
  rotate_left
  · intro REST
    go_region_held3 (fun w' => w'.cell? ⟨w.heap.size, 0, none⟩ = some (.slice pa pn pc) ∧ w'.cell? ⟨w.heap.size, 4, none⟩ = some (.slice xa xn xc) ∧ w'.cell? ⟨w.heap.size, 5, none⟩ = some (.slice ya yn yc) ∧ w'.cell? ⟨w.heap.size + 1 + 1, 0, none⟩ = some (.func (.func 55) #[] #[]) ∧ w'.cell? ⟨w.heap.size + 1 + 1 + 1, 0, none⟩ = some (.func (.func 56) #[] #[.pointer (some ⟨w.heap.size + 1 + 1, 0, none⟩)]))
      (first
        | with_reducible exact ⟨cellDrew q0, cellDrew q4, cellDrew q5, cellDrew qf, cellDrew qg⟩
        | with_reducible exact ⟨cellDrew (allocKeep q0), cellDrew (allocKeep q4), cellDrew (allocKeep q5), cellDrew (allocKeep qf), cellDrew (allocKeep qg)⟩
        | (go_split_ands
           first | with_reducible exact G6.out | with_reducible exact ⟨allocKeep G5.out.1, allocKeep G5.out.2.1, allocKeep G5.out.2.2.1, allocKeep G5.out.2.2.2.1, allocKeep G5.out.2.2.2.2⟩ | (refine ⟨?_, ?_, ?_, ?_, ?_⟩ <;> (first | with_reducible exact allocKeep (by assumption) | with_reducible exact cellKeep hb5 (by assumption) | with_reducible exact cellKeep hb4 (by assumption) | with_reducible exact cellKeep hb3 (by assumption))))
        | fail)
      (first
        | (go_at_call 56; refine (w56 ⟨pa, pn, pc⟩ P _ _ (Words.below HS0.out.1 (by first | exact CLd.out.below | exact (CL.out.next (belAlloc _ _)).drew.below) (Nat.le_refl _)) SM.out.1 (by go_split_ands; assumption)).mono ?_; rintro e w3 ⟨p', rfl, hl3, hw3, hb3, hfr3⟩
           have C3 : Hid (Cl37 w #[.slice pa pn pc, .slice ra rn rc, .slice ua un uc, .slice ga gn gc, .slice xa xn xc, .slice ya yn yc] w3) := (by first | exact CLd.out.next hb3 | exact (CL.out.next (belAlloc _ _)).drew.next hb3)
           replace hl3 := hid hl3; replace hw3 := hid hw3; replace hfr3 := hid hfr3)
        | (go_at_call_of 57 xa; refine (w57 ⟨xa, xn, xc⟩ xv X _ _ _ (Grants.below HS0.out.2.2.2.2.1 (by first | exact C3.out.below | exact (C3.out.next (belAlloc _ _)).below) (Nat.le_refl _)) SM.out.2.2.2.2.1 (by go_split_ands; assumption) (by go_split_ands; assumption)).mono ?_; rintro e w4 ⟨x', xv', rfl, hw4, hl4, hb4⟩
           have C4 : Hid (Cl37 w #[.slice pa pn pc, .slice ra rn rc, .slice ua un uc, .slice ga gn gc, .slice xa xn xc, .slice ya yn yc] w4) := (by first | exact C3.out.next hb4 | exact (C3.out.next (belAlloc _ _)).next hb4)
           replace hl4 := hid hl4; replace hw4 := hid hw4)
        | (go_at_call_of 57 ya; refine (w57 ⟨ya, yn, yc⟩ yv Y _ _ _ (Grants.below HS0.out.2.2.2.2.2 (by first | exact C4.out.below | exact (C4.out.next (belAlloc _ _)).below) (Nat.le_refl _)) SM.out.2.2.2.2.2 (by go_split_ands; assumption) (by go_split_ands; assumption)).mono ?_; rintro e w5 ⟨y', yv', rfl, hw5, hl5, hb5⟩
           have C5 : Hid (Cl37 w #[.slice pa pn pc, .slice ra rn rc, .slice ua un uc, .slice ga gn gc, .slice xa xn xc, .slice ya yn yc] w5) := (by first | exact C4.out.next hb5 | exact (C4.out.next (belAlloc _ _)).next hb5)
           replace hl5 := hid hl5; replace hw5 := hid hw5
           have G5 : Hid (w5.cell? ⟨w.heap.size, 0, none⟩ = some (.slice pa pn pc) ∧ w5.cell? ⟨w.heap.size, 4, none⟩ = some (.slice xa xn xc) ∧ w5.cell? ⟨w.heap.size, 5, none⟩ = some (.slice ya yn yc) ∧ w5.cell? ⟨w.heap.size + 1 + 1, 0, none⟩ = some (.func (.func 55) #[] #[]) ∧ w5.cell? ⟨w.heap.size + 1 + 1 + 1, 0, none⟩ = some (.func (.func 56) #[] #[.pointer (some ⟨w.heap.size + 1 + 1, 0, none⟩)])) := ⟨C5.out.box.cell 0 _ rfl, C5.out.box.cell 4 _ rfl, C5.out.box.cell 5 _ rfl, C5.out.fw.cell 0 _ rfl, C5.out.fs.cell 0 _ rfl⟩
           have M0 : Hid True := trivial
           first | (have KB := storeOut C5.out ((((blk_new wf 37 nil6).drew.next hb3).next hb4).next hb5) CL.out.size (.slice p'.a p'.n p'.c) (.slice none 0 0) (.slice none 0 0) (.slice none 0 0) (.slice x'.a x'.n x'.c) (.slice y'.a y'.n y'.c); obtain ⟨x1, x2, x3, x4, x5, x6, e1, e2, e3, e4, e5, e6, c0, z0, c1, z1, c2, z2, c3, z3, c4, z4, c5, z5, ST6, KQ6⟩ := KB; have G6 : Hid (x6.cell? ⟨w.heap.size, 0, none⟩ = some (.slice pa pn pc) ∧ x6.cell? ⟨w.heap.size, 4, none⟩ = some (.slice xa xn xc) ∧ x6.cell? ⟨w.heap.size, 5, none⟩ = some (.slice ya yn yc) ∧ x6.cell? ⟨w.heap.size + 1 + 1, 0, none⟩ = some (.func (.func 55) #[] #[]) ∧ x6.cell? ⟨w.heap.size + 1 + 1 + 1, 0, none⟩ = some (.func (.func 56) #[] #[.pointer (some ⟨w.heap.size + 1 + 1, 0, none⟩)])) := ⟨ST6.out.cl.box.cell 0 _ rfl, ST6.out.cl.box.cell 4 _ rfl, ST6.out.cl.box.cell 5 _ rfl, ST6.out.cl.fw.cell 0 _ rfl, ST6.out.cl.fs.cell 0 _ rfl⟩) | (have KB := storeOut C5.out (((blk_new w3 37 nil6).next hb4).next hb5) C3.out.size (.slice p'.a p'.n p'.c) (.slice none 0 0) (.slice none 0 0) (.slice none 0 0) (.slice x'.a x'.n x'.c) (.slice y'.a y'.n y'.c); obtain ⟨x1, x2, x3, x4, x5, x6, e1, e2, e3, e4, e5, e6, c0, z0, c1, z1, c2, z2, c3, z3, c4, z4, c5, z5, ST6, KQ6⟩ := KB; have G6 : Hid (x6.cell? ⟨w.heap.size, 0, none⟩ = some (.slice pa pn pc) ∧ x6.cell? ⟨w.heap.size, 4, none⟩ = some (.slice xa xn xc) ∧ x6.cell? ⟨w.heap.size, 5, none⟩ = some (.slice ya yn yc) ∧ x6.cell? ⟨w.heap.size + 1 + 1, 0, none⟩ = some (.func (.func 55) #[] #[]) ∧ x6.cell? ⟨w.heap.size + 1 + 1 + 1, 0, none⟩ = some (.func (.func 56) #[] #[.pointer (some ⟨w.heap.size + 1 + 1, 0, none⟩)])) := ⟨ST6.out.cl.box.cell 0 _ rfl, ST6.out.cl.box.cell 4 _ rfl, ST6.out.cl.box.cell 5 _ rfl, ST6.out.cl.fw.cell 0 _ rfl, ST6.out.cl.fs.cell 0 _ rfl⟩) | (have KB := storeOut C5.out ((blk_new w4 37 nil6).next hb5) C4.out.size (.slice p'.a p'.n p'.c) (.slice none 0 0) (.slice none 0 0) (.slice none 0 0) (.slice x'.a x'.n x'.c) (.slice y'.a y'.n y'.c); obtain ⟨x1, x2, x3, x4, x5, x6, e1, e2, e3, e4, e5, e6, c0, z0, c1, z1, c2, z2, c3, z3, c4, z4, c5, z5, ST6, KQ6⟩ := KB; have G6 : Hid (x6.cell? ⟨w.heap.size, 0, none⟩ = some (.slice pa pn pc) ∧ x6.cell? ⟨w.heap.size, 4, none⟩ = some (.slice xa xn xc) ∧ x6.cell? ⟨w.heap.size, 5, none⟩ = some (.slice ya yn yc) ∧ x6.cell? ⟨w.heap.size + 1 + 1, 0, none⟩ = some (.func (.func 55) #[] #[]) ∧ x6.cell? ⟨w.heap.size + 1 + 1 + 1, 0, none⟩ = some (.func (.func 56) #[] #[.pointer (some ⟨w.heap.size + 1 + 1, 0, none⟩)])) := ⟨ST6.out.cl.box.cell 0 _ rfl, ST6.out.cl.box.cell 4 _ rfl, ST6.out.cl.box.cell 5 _ rfl, ST6.out.cl.fw.cell 0 _ rfl, ST6.out.cl.fs.cell 0 _ rfl⟩) | skip)
        | fail)
    · skip
      obtain ⟨W, hW⟩ : ∃ W, w5.alloc (Obj.cells #[.slice p'.a p'.n p'.c, .slice none 0 0, .slice none 0 0, .slice none 0 0, .slice x'.a x'.n x'.c, .slice y'.a y'.n y'.c] 37) = W := ⟨_, rfl⟩
      rw [hW]
      have ST6 : St37 w w5.heap.size #[.slice pa pn pc, .slice ra rn rc, .slice ua un uc, .slice ga gn gc, .slice xa xn xc, .slice ya yn yc] #[.slice p'.a p'.n p'.c, .slice none 0 0, .slice none 0 0, .slice none 0 0, .slice x'.a x'.n x'.c, .slice y'.a y'.n y'.c] W := hW ▸ ⟨C5.out.next (belAlloc _ _), blk_new _ _ _, C5.out.size⟩
      have KQ6 : Kq (w.heap.size + 1 + 1 + 1 + 1) w5.heap.size w5 W := hW ▸ (Kq.refl _ _ _).below (belAlloc _ _) (Nat.le_refl _)
      have ALL6 := all37 hw3.out hfr3.out hw4.out hl4.out hw5.out hl5.out CLd.out.size C3.out.size C4.out.size (Or.inr (Nat.le_trans hb4.size hb5.size)) (Or.inr hb5.size) (Or.inr (Nat.le_refl _)) hb4 hb5 KQ6
      clear hW KQ6
      obtain ⟨O, hO⟩ : ∃ O, w5.heap.size = O := ⟨_, rfl⟩
      rw [hO] at ST6 ALL6 ⊢
      exact REST.out O p' x' xv' y' yv' W ⟨ST6, hl3.out, ⟨hl4.out.1, hl4.out.2.1⟩, ⟨hl5.out.1, hl5.out.2.1⟩, ALL6⟩
    · exact REST.out w4.heap.size p' x' xv' y' yv' x6 ⟨ST6.out, hl3.out, ⟨hl4.out.1, hl4.out.2.1⟩, ⟨hl5.out.1, hl5.out.2.1⟩, all37 hw3.out hfr3.out hw4.out hl4.out hw5.out hl5.out CLd.out.size C3.out.size (C4.out.next (belAlloc _ _)).size (Or.inr hb4.size) (Or.inr (Nat.le_refl _)) (Or.inl (ltAlloc _ _)) hb4 ((belAlloc w4 _).trans (hb5.mono (Nat.le_of_lt (ltAlloc _ _)))) (KQ6.out _)⟩
    · exact REST.out w3.heap.size p' x' xv' y' yv' x6 ⟨ST6.out, hl3.out, ⟨hl4.out.1, hl4.out.2.1⟩, ⟨hl5.out.1, hl5.out.2.1⟩, all37 hw3.out hfr3.out hw4.out hl4.out hw5.out hl5.out CLd.out.size (C3.out.next (belAlloc _ _)).size C4.out.size (Or.inr (Nat.le_refl _)) (Or.inl (ltAlloc _ _)) (Or.inl (Nat.lt_of_lt_of_le (ltAlloc _ _) hb4.size)) ((belAlloc w3 _).trans (hb4.mono (Nat.le_of_lt (ltAlloc _ _)))) hb5 (KQ6.out _)⟩
    · exact REST.out wf.heap.size p' x' xv' y' yv' x6 ⟨ST6.out, hl3.out, ⟨hl4.out.1, hl4.out.2.1⟩, ⟨hl5.out.1, hl5.out.2.1⟩, all37 hw3.out hfr3.out hw4.out hl4.out hw5.out hl5.out (CL.out.next (belAlloc _ _)).drew.size C3.out.size C4.out.size (Or.inl (ltAlloc wf _)) (Or.inl (Nat.lt_of_lt_of_le (ltAlloc wf _) hb3.size)) (Or.inl (Nat.lt_of_lt_of_le (ltAlloc wf _) (Nat.le_trans hb3.size hb4.size))) hb4 hb5 (KQ6.out _)⟩
  rintro O p' x' xv' y' yv' wA ⟨st, lp, lx, ly, al⟩
  have ST := hid st
  have LP := hid lp
  have LX := hid lx
  have LY := hid ly
  have ALL := hid al
  clear st lp lx ly al q0 q4 q5 qf qg CL CLd c1 z1 c2 z2 sa sb sc sd
  have q1 : wA.cell? ⟨w.heap.size, 1, none⟩ = some (.slice ra rn rc) := ST.out.cl.box.cell 1 _ rfl
  have HLOr : Hid (O < wA.heap.size) := ST.out.out.lt
  obtain ⟨ti, hi0, hz0, hz1, hz2⟩ := info_parts info82
  have HI := hid hi0
  have HZ0 := hid hz0
  have HZ1 := hid hz1
  have HZ2 := hid hz2
  clear hi0 hz0 hz1 hz2
  go_wp2
  go_loopw [31] (fun i wr => ∃ (k : Nat) (v : Value), k ≤ rn ∧ i = .int .i64 k ∧ Hid (St37 w O #[.slice pa pn pc, .slice ra rn rc, .slice ua un uc, .slice ga gn gc, .slice xa xn xc, .slice ya yn yc] #[.slice p'.a p'.n p'.c, v, .slice none 0 0, .slice none 0 0, .slice x'.a x'.n x'.c, .slice y'.a y'.n y'.c] wr) ∧ Hid (OutX 82 3 (FR R) wr wA.heap.size v k rv R.c) ∧ Hid (Kq (w.heap.size + 1 + 1 + 1 + 1) O wA wr)) (fun i _ => rn - (intOf i).toNat)
  case atStart => exact ⟨0, .slice none 0 0, Nat.zero_le _, rfl, ST.out, outX_nil _ _ _ _ _ _ _, Kq.refl _ _ _⟩
  case round =>
    obtain ⟨k, v, hk, rfl, SZ, OU, KQ⟩ := hrel
    by_cases hlt : k < rn
    · skip
      rcases HS0.out.2.1.below SZ.out.cl.below (Nat.le_refl _) with h | ⟨b, of, ha, hc⟩
      · exact absurd h (by dsimp only; omega)
      dsimp only at ha
      subst ha
      obtain ⟨f0, f1, f2, fw⟩ := hc k hlt
      obtain ⟨w2, hw2⟩ : ∃ w2, wr.alloc (Obj.cells #[.string (R.t k), .int .i64 (R.l k), .slice (rv k).a (rv k).n (rv k).c] 82) = w2 := ⟨_, rfl⟩
      have bx : Below wr.heap.size wr w2 := hw2 ▸ belAlloc _ _
      have hq : Blk w2 wr.heap.size 82 #[.string (R.t k), .int .i64 (R.l k), .slice (rv k).a (rv k).n (rv k).c] := hw2 ▸ blk_new _ _ _
      have d0 : w2.cell? ⟨wr.heap.size, 0, none⟩ = some (.string (R.t k)) := hq.cell 0 _ rfl
      have d1 : w2.cell? ⟨wr.heap.size, 1, none⟩ = some (.int .i64 (R.l k)) := hq.cell 1 _ rfl
      have d2 : w2.cell? ⟨wr.heap.size, 2, none⟩ = some (.slice (rv k).a (rv k).n (rv k).c) := hq.cell 2 _ rfl
      have S2 := hid (SZ.out.next bx)
      have qf : w2.cell? ⟨w.heap.size + 1 + 1, 0, none⟩ = some (.func (.func 55) #[] #[]) := S2.out.cl.fw.cell 0 _ rfl
      have qg : w2.cell? ⟨w.heap.size + 1 + 1 + 1, 0, none⟩ = some (.func (.func 56) #[] #[.pointer (some ⟨w.heap.size + 1 + 1, 0, none⟩)]) := S2.out.cl.fs.cell 0 _ rfl
      have qo : w2.cell? ⟨O, 1, none⟩ = some v := S2.out.out.cell 1 _ rfl
      have FW := hid (Words.next bx fw)
      have VM := hid (SM.out.2.1.2 k hlt)
      have hn : rn ≤ 1048576 := SM.out.2.1.1
      obtain ⟨hv0, vs', xs, hown, hx⟩ := OU.out
      have hlen : xs.length = k * 3 := hown.1
      have HO := hid (ownsRow_below hown bx (Nat.le_refl _))
      have HX : Hid (∀ j, j < k → (∀ i, i < 3 → xs[j * 3 + i]? = (FR R j (vs' j))[i]?) ∧ InW w2 wA.heap.size v.ownBlock (rv j) (vs' j) (R.c j)) := fun j hj => ⟨(hx j hj).1, (hx j hj).2.below bx (Nat.le_refl _)⟩
      have HLB : Hid (∀ b, v.ownBlock = some b → wA.heap.size ≤ b ∧ b < wr.heap.size) := fun b hb => hown.lt b hb
      have hlo := ST.out.lo
      have hWO := HLOr.out
      have NB1 : Hid (some (w.heap.size + 1 + 1) ≠ v.ownBlock) := fun e => by have := (HLB.out _ e.symm).1; omega
      have NB2 : Hid (some (w.heap.size + 1 + 1 + 1) ≠ v.ownBlock) := fun e => by have := (HLB.out _ e.symm).1; omega
      have NB3 : Hid (some wr.heap.size ≠ v.ownBlock) := fun e => by have := (HLB.out _ e.symm).2; omega
      have NBO : Hid (some O ≠ v.ownBlock) := fun e => by have := (HLB.out _ e.symm).1; omega
      have SZ2 : Hid (wr.heap.size + 1 = w2.heap.size) := by show _ = _; rw [← hw2]; simp
      have HWR : Hid (wA.heap.size ≤ wr.heap.size) := KQ.out.size
      have HW2 := hid hw2
      have BX := hid bx
      have i0 : (0 : Int) ≤ (k : Int) := by omega
      have i1 : (k : Int) < (rn : Int) := by omega
      clear hc fw OU hx hown bx hq hw2 hv0 hlo hWO
      go_wp2_with fail
      rw [HW2.out]
      refine wp_region_noPanic ?_
      refine wp_region_pop (S := fun w' => w'.cell? ⟨wr.heap.size, 0, none⟩ = some (.string (R.t k)) ∧ w'.cell? ⟨wr.heap.size, 1, none⟩ = some (.int .i64 (R.l k)) ∧ w'.cell? ⟨wr.heap.size, 2, none⟩ = some (.slice (rv k).a (rv k).n (rv k).c) ∧ w'.cell? ⟨w.heap.size + 1 + 1, 0, none⟩ = some (.func (.func 55) #[] #[]) ∧ w'.cell? ⟨w.heap.size + 1 + 1 + 1, 0, none⟩ = some (.func (.func 56) #[] #[.pointer (some ⟨w.heap.size + 1 + 1, 0, none⟩)]) ∧ w'.cell? ⟨O, 1, none⟩ = some v) 14 (by kernel_rfl) (by kernel_rfl) (by simp only [List.pop_toArray, List.dropLast]; rfl) ⟨cellDrew d0, cellDrew d1, cellDrew d2, cellDrew qf, cellDrew qg, cellDrew qo⟩ (fun hHeld => ?_)
      refine wpAnyH_take (i := 0) (oi := ?_) (v := ?_) ?_ (by kernel_rfl) (by kernel_rfl) (by kernel_rfl) (fun _ _ _ h => h) (Or.inl ⟨?_, ?_⟩) (by assumption) ?_
      rotate_left 2
      · exact (by first | (simp only [List.getElem?_toArray, List.getElem?_cons_zero]; done) | (simp only [List.getElem?_toArray, List.getElem?_cons_zero]; rfl))
      · rfl
      · intro w hSw; (try dsimp only at hSw); go_simp; try with_reducible rfl
      simp only [Act.put, List.setIfInBounds_toArray, List.set_cons_zero, List.set_cons_succ]
      refine wpAnyH_take (i := 1) (oi := ?_) (v := ?_) ?_ (by kernel_rfl) (by kernel_rfl) (by kernel_rfl) (fun _ _ _ h => h) (Or.inl ⟨?_, ?_⟩) (by assumption) ?_
      rotate_left 2
      · exact (by first | (simp only [List.getElem?_toArray, List.getElem?_cons_succ, List.getElem?_cons_zero]; done) | (simp only [List.getElem?_toArray, List.getElem?_cons_succ, List.getElem?_cons_zero]; rfl))
      · rfl
      · intro w hSw; (try dsimp only at hSw); go_simp; try with_reducible rfl
      simp only [Act.put, List.setIfInBounds_toArray, List.set_cons_zero, List.set_cons_succ]
      refine wpAnyH_take (i := 2) (oi := ?_) (v := ?_) ?_ (by kernel_rfl) (by kernel_rfl) (by kernel_rfl) (fun _ _ _ h => h) (Or.inl ⟨?_, ?_⟩) (by assumption) ?_
      rotate_left 2
      · exact (by first | (simp only [List.getElem?_toArray, List.getElem?_cons_succ, List.getElem?_cons_zero]; done) | (simp only [List.getElem?_toArray, List.getElem?_cons_succ, List.getElem?_cons_zero]; rfl))
      · rfl
      · intro w hSw; (try dsimp only at hSw); go_simp; try with_reducible rfl
      simp only [Act.put, List.setIfInBounds_toArray, List.set_cons_zero, List.set_cons_succ]
      refine wpAnyH_take (i := 3) (oi := ?_) (v := ?_) ?_ (by kernel_rfl) (by kernel_rfl) (by kernel_rfl) (fun _ _ _ h => h) (Or.inl ⟨?_, ?_⟩) (by assumption) ?_
      rotate_left 2
      · exact (by first | (simp only [List.getElem?_toArray, List.getElem?_cons_succ, List.getElem?_cons_zero]; done) | (simp only [List.getElem?_toArray, List.getElem?_cons_succ, List.getElem?_cons_zero]; rfl))
      · rfl
      · intro w hSw; (try dsimp only at hSw); go_simp; try with_reducible rfl
      simp only [Act.put, List.setIfInBounds_toArray, List.set_cons_zero, List.set_cons_succ]
      refine wpAnyH_take (i := 4) (oi := ?_) (v := ?_) ?_ (by kernel_rfl) (by kernel_rfl) (by kernel_rfl) (fun _ _ _ h => h) (Or.inl ⟨?_, ?_⟩) (by assumption) ?_
      rotate_left 2
      · exact (by first | (simp only [List.getElem?_toArray, List.getElem?_cons_succ, List.getElem?_cons_zero]; done) | (simp only [List.getElem?_toArray, List.getElem?_cons_succ, List.getElem?_cons_zero]; rfl))
      · rfl
      · intro w hSw; (try dsimp only at hSw); go_simp; try with_reducible rfl
      simp only [Act.put, List.setIfInBounds_toArray, List.set_cons_zero, List.set_cons_succ]
      refine wpAnyH_take (i := 6) (oi := ?_) (v := ?_) ?_ (by kernel_rfl) (by kernel_rfl) (by kernel_rfl) (fun _ _ _ h => h) (Or.inl ⟨?_, ?_⟩) (by assumption) ?_
      rotate_left 2
      · exact (by first | (simp only [List.getElem?_toArray, List.getElem?_cons_succ, List.getElem?_cons_zero]; done) | (simp only [List.getElem?_toArray, List.getElem?_cons_succ, List.getElem?_cons_zero]; rfl))
      · rfl
      · intro w hSw; (try dsimp only at hSw); go_simp; try with_reducible rfl
      simp only [Act.put, List.setIfInBounds_toArray, List.set_cons_zero, List.set_cons_succ]
      refine wpAnyH_take (i := 7) (oi := ?_) (v := ?_) ?_ (by kernel_rfl) (by kernel_rfl) (by kernel_rfl) (fun _ _ _ h => h) (Or.inl ⟨?_, ?_⟩) (by assumption) ?_
      rotate_left 2
      · exact (by first | (simp only [List.getElem?_toArray, List.getElem?_cons_succ, List.getElem?_cons_zero]; done) | (simp only [List.getElem?_toArray, List.getElem?_cons_succ, List.getElem?_cons_zero]; rfl))
      · rfl
      · intro w hSw; (try dsimp only at hSw); go_simp; try with_reducible rfl
      simp only [Act.put, List.setIfInBounds_toArray, List.set_cons_zero, List.set_cons_succ]
      refine wpAnyH_take (i := 8) (oi := ?_) (v := ?_) ?_ (by kernel_rfl) (by kernel_rfl) (by kernel_rfl) (fun _ _ _ h => h) (Or.inl ⟨?_, ?_⟩) (by assumption) ?_
      rotate_left 2
      · exact (by first | (simp only [List.getElem?_toArray, List.getElem?_cons_succ, List.getElem?_cons_zero]; done) | (simp only [List.getElem?_toArray, List.getElem?_cons_succ, List.getElem?_cons_zero]; rfl))
      · rfl
      · intro w hSw; (try dsimp only at hSw); go_simp; try with_reducible rfl
      simp only [Act.put, List.setIfInBounds_toArray, List.set_cons_zero, List.set_cons_succ]
      refine wpAnyH_ready (rs := [5]) (by kernel_rfl) (by simp) ?_
      refine AllReadyH.cons (by first | (simp only [List.getElem?_toArray, List.getElem?_cons_succ, List.getElem?_cons_zero]; done) | (simp only [List.getElem?_toArray, List.getElem?_cons_succ, List.getElem?_cons_zero]; rfl)) (fun K hK => ?_) AllReadyH.nil
      go_simp
      refine (w55 _ _ _).mono ?_
      rintro e w3 ⟨rfl, hb3⟩
      go_wp2_with fail
      refine hK.out _ _ ?_ (fun hHeld => ?_)
      · go_split_ands; exact ⟨cellKeep hb3 (by assumption), cellKeep hb3 (by assumption), cellKeep hb3 (by assumption), cellKeep hb3 (by assumption), cellKeep hb3 (by assumption), cellKeep hb3 (by assumption)⟩
      clear hK K
      try simp only [Act.put, List.setIfInBounds_toArray, List.set_cons_zero, List.set_cons_succ]
      refine wpAnyH_ready (rs := [9]) (by kernel_rfl) (by simp) ?_
      refine AllReadyH.cons (by first | (simp only [List.getElem?_toArray, List.getElem?_cons_succ, List.getElem?_cons_zero]; done) | (simp only [List.getElem?_toArray, List.getElem?_cons_succ, List.getElem?_cons_zero]; rfl)) (fun K hK => ?_) AllReadyH.nil
      go_simp
      refine (w56 (rv k) (R.c k) _ _ (Words.next hb3 FW.out) VM.out (by go_split_ands; assumption)).mono ?_
      rintro e w4 ⟨s', rfl, hl4, hw4, hb4, hfr4⟩
      replace hl4 := hid hl4
      replace hw4 := hid hw4
      replace hfr4 := hid hfr4
      go_wp2_with fail
      refine hK.out _ _ ?_ (fun hHeld => ?_)
      · go_split_ands; exact ⟨cellKeep hb4 (by assumption), cellKeep hb4 (by assumption), cellKeep hb4 (by assumption), cellKeep hb4 (by assumption), cellKeep hb4 (by assumption), cellKeep hb4 (by assumption)⟩
      clear hK K
      try simp only [Act.put, List.setIfInBounds_toArray, List.set_cons_zero, List.set_cons_succ]
      refine wpAnyH_take (i := 10) (oi := ?_) (v := ?_) ?_ (by kernel_rfl) (by kernel_rfl) (by kernel_rfl) (fun _ _ _ h => h) (Or.inl ⟨?_, ?_⟩) (by assumption) ?_
      rotate_left 2
      · exact (by first | (simp only [List.getElem?_toArray, List.getElem?_cons_succ, List.getElem?_cons_zero]; done) | (simp only [List.getElem?_toArray, List.getElem?_cons_succ, List.getElem?_cons_zero]; rfl))
      · rfl
      · intro w hSw; (try dsimp only at hSw); go_simp; try with_reducible rfl
      simp only [Act.put, List.setIfInBounds_toArray, List.set_cons_zero, List.set_cons_succ]
      refine wpAnyH_ready (rs := [11]) (by kernel_rfl) (by simp) ?_
      refine AllReadyH.cons (by first | (simp only [List.getElem?_toArray, List.getElem?_cons_succ, List.getElem?_cons_zero]; done) | (simp only [List.getElem?_toArray, List.getElem?_cons_succ, List.getElem?_cons_zero]; rfl)) (fun K hK => ?_) AllReadyH.nil
      go_simp
      refine hK.out _ _ ?_ (fun hHeld => ?_)
      · go_split_ands; exact ⟨allocKeep (by assumption), allocKeep (by assumption), allocKeep (by assumption), allocKeep (by assumption), allocKeep (by assumption), allocKeep (by assumption)⟩
      clear hK K
      try simp only [Act.put, List.setIfInBounds_toArray, List.set_cons_zero, List.set_cons_succ]
      refine wpAnyH_ready (rs := [12]) (by kernel_rfl) (by simp) ?_
      refine AllReadyH.cons (by first | (simp only [List.getElem?_toArray, List.getElem?_cons_succ, List.getElem?_cons_zero]; done) | (simp only [List.getElem?_toArray, List.getElem?_cons_succ, List.getElem?_cons_zero]; rfl)) (fun K hK => ?_) AllReadyH.nil
      refine step_append_lies _ (by rfl) _ _ 32 (by rfl) wA.heap.size 82 ti _ 3 48 Try.underlying32 HI.out HZ0.out HZ1.out HZ2.out rfl (by decide) v k xs (by rfl) ((ownsRow_below (ownsRow_below HO.out.drew hb3 (Nat.le_refl _)) hb4 (Nat.le_refl _)).alloc _) ⟨w4.heap.size, 0, none⟩ 1 1 [.string (R.t k), .int .i64 0, .slice s'.a s'.n s'.c] (by rfl) (by rfl) (World.news_of_block (cs := #[.string (R.t k), .int .i64 0, .slice s'.a s'.n s'.c]) (t := 82) (fr := (0, 0)) (heap_alloc_new w4 _)) (by simp [Value.oneCell']) (by omega) (by unfold maxLen; omega) (by omega) (by have h3 : w2.heap.size ≤ w3.heap.size := hb3.size; have h4 := hb4.size; have := SZ2.out; have := HWR.out; simp; omega) (w4.heap.size + 1) (by simp) ?_
      intro g cap w6 hown6 hgrow hat hlt6
      refine hK.out _ _ ?_ (fun hHeld => ?_)
      · go_split_ands; exact ⟨growKeep hgrow (by assumption) NB3.out, growKeep hgrow (by assumption) NB3.out, growKeep hgrow (by assumption) NB3.out, growKeep hgrow (by assumption) NB1.out, growKeep hgrow (by assumption) NB2.out, growKeep hgrow (by assumption) NBO.out⟩
      clear hK K
      try simp only [Act.put, List.setIfInBounds_toArray, List.set_cons_zero, List.set_cons_succ]
      refine wpAnyH_take (i := 13) (oi := ?_) (v := ?_) ?_ (by kernel_rfl) (by kernel_rfl) (by kernel_rfl) (fun _ _ _ h => h) (Or.inl ⟨?_, ?_⟩) (by assumption) ?_
      rotate_left 2
      · exact (by first | (simp only [List.getElem?_toArray, List.getElem?_cons_succ, List.getElem?_cons_zero]; done) | (simp only [List.getElem?_toArray, List.getElem?_cons_succ, List.getElem?_cons_zero]; rfl))
      · rfl
      · intro w hSw; (try dsimp only at hSw); go_simp; try with_reducible rfl
      simp only [Act.put, List.setIfInBounds_toArray, List.set_cons_zero, List.set_cons_succ]
      refine wpAnyH_done (by kernel_rfl) ?_ _
      have h3 : w2.heap.size ≤ w3.heap.size := hb3.size
      have h4 := hb4.size
      have h2 := SZ2.out
      have hWO := HLOr.out
      have hWr := HWR.out
      have hlo := ST.out.lo
      have bl : Below w2.heap.size w2 w4 := ((Below.refl w2.heap.size w2).drew.trans hb3).trans (hb4.mono h3)
      have S6 : Hid (St37 w O #[.slice pa pn pc, .slice (some ⟨b, of, none⟩) rn rc, .slice ua un uc, .slice ga gn gc, .slice xa xn xc, .slice ya yn yc] #[.slice p'.a p'.n p'.c, v, .slice none 0 0, .slice none 0 0, .slice x'.a x'.n x'.c, .slice y'.a y'.n y'.c] w6) := ((S2.out.next bl).next (belAlloc _ _)).grown hgrow (fun q hq => by have := (HLB.out q hq).1; omega)
      obtain ⟨w7, hw7⟩ : ∃ x, w6.setCell ⟨O, 1, none⟩ (.slice (some ⟨g, 0, none⟩) (k + 1) cap) = x := ⟨_, rfl⟩
      have z7 : w6.frozen? ⟨O, 1, none⟩ = false := S6.out.out.frozen 1
      have c7 : w6.cell? ⟨O, 1, none⟩ = some v := S6.out.out.cell 1 _ rfl
      have hnew : InW w4 wA.heap.size v.ownBlock (rv k) s' (R.c k) := ⟨hl4.out, hw4.out, fun b hb => by
        have hbb := hfr4.out b hb
        refine ⟨by omega, ?_, fun e => by have := (HLB.out b e.symm).2; omega⟩
        rcases hw4.out with hn0 | ⟨b1, o1, ha1, hc1⟩
        · rw [hl4.out.2 (by have := hl4.out.1; omega)] at hb
          cases hb
        · by_cases hn0 : s'.n = 0
          · rw [hl4.out.2 (by have := hl4.out.1; omega)] at hb
            cases hb
          · have hb1 : b1 < w4.heap.size := World.block_lt_of_cell? w4 _ (hc1 0 (by omega)).1
            rw [ha1] at hb
            have hbe : b1 = b := by simpa using hb
            omega⟩
      have al : Below w4.heap.size w4 (w4.alloc (Obj.cells #[.string (R.t k), .int .i64 0, .slice s'.a s'.n s'.c] 82)) := belAlloc _ _
      have OU6 : OutX 82 3 (FR R) w6 wA.heap.size (.slice (some ⟨g, 0, none⟩) (k + 1) cap) (k + 1) rv R.c := outX_snoc hlen (fun j hj => ⟨(HX.out j hj).1, ((HX.out j hj).2.below bl (Nat.le_refl _)).below al (Nat.le_refl _)⟩) (hnew.below al (Nat.le_refl _)) hgrow (hat.imp id (fun h => by rw [h]; simp)) hown6
      have OU7 : Hid (OutX 82 3 (FR R) w7 wA.heap.size (.slice (some ⟨g, 0, none⟩) (k + 1) cap) (k + 1) rv R.c) := OU6.kp (hw7 ▸ (Kp.refl _ _).set ⟨O, 1, none⟩ _ (Or.inl hWO))
      have S7 : Hid (St37 w O #[.slice pa pn pc, .slice (some ⟨b, of, none⟩) rn rc, .slice ua un uc, .slice ga gn gc, .slice xa xn xc, .slice ya yn yc] #[.slice p'.a p'.n p'.c, .slice (some ⟨g, 0, none⟩) (k + 1) cap, .slice none 0 0, .slice none 0 0, .slice x'.a x'.n x'.c, .slice y'.a y'.n y'.c] w7) := hw7 ▸ S6.out.set 1 _
      have KQ7 : Hid (Kq (w.heap.size + 1 + 1 + 1 + 1) O wA w7) := hw7 ▸ ((((KQ.out.below BX.out (Nat.le_refl _)).below bl (Nat.le_refl _)).below al (Nat.le_refl _)).grown hgrow (fun q hq => (HLB.out q hq).1)).set 1 _
      clear hown6 hgrow hat hlt6 hnew al bl h2 h3 h4 hb3 hb4 OU6 hWO hWr hlo S6
      refine popQ_last (by first | (simp only [List.getElem?_toArray, List.getElem?_cons_succ, List.getElem?_cons_zero]; done) | (simp only [List.getElem?_toArray, List.getElem?_cons_succ, List.getElem?_cons_zero]; rfl)) (fun K hK => ?_)
      go_simp
      refine hK.out _ _ ?_
      clear hK K
      refine NoPanic.normal ?_
      clear hHeld
      go_wp2
      go_roundw
      case rel => exact ⟨k + 1, .slice (some ⟨g, 0, none⟩) (k + 1) cap, by omega, by go_num, S7, OU7, KQ7⟩
      case measure => simp [intOf]; omega
    obtain ⟨wrx, rfl⟩ : ∃ x, x = wr := ⟨_, rfl⟩
    obtain rfl : rn = k := by omega
    obtain ⟨r', rv', rfl, e1, e2⟩ := outX_roles (s := ⟨ra, rn, rc⟩) OU.out
    have E1 := hid e1
    have LR : Hid ((r'.n = rn ∧ (rn = 0 → r' = ⟨none, 0, 0⟩)) ∧ (∀ i, i < rn → (rv' i).n = (rv i).n ∧ ((rv i).n = 0 → rv' i = ⟨none, 0, 0⟩))) := ⟨e2.1, e2.2.1⟩
    have hWO := HLOr.out
    have hlo := ST.out.lo
    have RH : Hid (RQ (w.heap.size + 1 + 1 + 1 + 1) O wrx r' rv') := ⟨fun b hb _ => by have := (e2.2.2.1 b hb).1; omega, fun i hi b hb _ => by have := e2.2.2.2 i (by rw [← e2.1.1]; exact hi) b hb; omega⟩
    have ALL2 : Hid (∀ wj, Kq (w.heap.size + 1 + 1 + 1 + 1) O wrx wj → (Words wj p' P.bare ∧ Grants wj x' xv' X.bare ∧ Grants wj y' yv' Y.bare) ∧ Roles wj r' rv' R.bare) := fun wj h => ⟨ALL.out wj (KQ.out.trans h), E1.out.kq RH.out h⟩
    clear e1 e2 E1 RH OU KQ ST ALL hWO hlo hlt hk HI HZ0 HZ1 HZ2 HLOr ti
    have ST := SZ
    have ALL := ALL2
    clear SZ ALL2
    have q2 : wrx.cell? ⟨w.heap.size, 2, none⟩ = some (.slice ua un uc) := ST.out.cl.box.cell 2 _ rfl
    have HLOu : Hid (O < wrx.heap.size) := ST.out.out.lt
    obtain ⟨ti, hi0, hz0, hz1, hz2⟩ := info_parts info84
    have HI := hid hi0
    have HZ0 := hid hz0
    have HZ1 := hid hz1
    have HZ2 := hid hz2
    clear hi0 hz0 hz1 hz2
    go_wp2
    go_loopw [53] (fun i wr => ∃ (k : Nat) (v : Value), k ≤ un ∧ i = .int .i64 k ∧ Hid (St37 w O #[.slice pa pn pc, .slice ra rn rc, .slice ua un uc, .slice ga gn gc, .slice xa xn xc, .slice ya yn yc] #[.slice p'.a p'.n p'.c, .slice r'.a r'.n r'.c, v, .slice none 0 0, .slice x'.a x'.n x'.c, .slice y'.a y'.n y'.c] wr) ∧ Hid (OutX 84 3 (FR U) wr wrx.heap.size v k uv U.c) ∧ Hid (Kq (w.heap.size + 1 + 1 + 1 + 1) O wrx wr)) (fun i _ => un - (intOf i).toNat)
    case atStart => exact ⟨0, .slice none 0 0, Nat.zero_le _, rfl, ST.out, outX_nil _ _ _ _ _ _ _, Kq.refl _ _ _⟩
    case round =>
      obtain ⟨k, v, hk, rfl, SZ, OU, KQ⟩ := hrel
      by_cases hlt : k < un
      · skip
        rcases HS0.out.2.2.1.below SZ.out.cl.below (Nat.le_refl _) with h | ⟨b, of, ha, hc⟩
        · exact absurd h (by dsimp only; omega)
        dsimp only at ha
        subst ha
        obtain ⟨f0, f1, f2, fw⟩ := hc k hlt
        obtain ⟨w2, hw2⟩ : ∃ w2, wr.alloc (Obj.cells #[.string (U.t k), .int .i64 (U.l k), .slice (uv k).a (uv k).n (uv k).c] 84) = w2 := ⟨_, rfl⟩
        have bx : Below wr.heap.size wr w2 := hw2 ▸ belAlloc _ _
        have hq : Blk w2 wr.heap.size 84 #[.string (U.t k), .int .i64 (U.l k), .slice (uv k).a (uv k).n (uv k).c] := hw2 ▸ blk_new _ _ _
        have d0 : w2.cell? ⟨wr.heap.size, 0, none⟩ = some (.string (U.t k)) := hq.cell 0 _ rfl
        have d1 : w2.cell? ⟨wr.heap.size, 1, none⟩ = some (.int .i64 (U.l k)) := hq.cell 1 _ rfl
        have d2 : w2.cell? ⟨wr.heap.size, 2, none⟩ = some (.slice (uv k).a (uv k).n (uv k).c) := hq.cell 2 _ rfl
        have S2 := hid (SZ.out.next bx)
        have qf : w2.cell? ⟨w.heap.size + 1 + 1, 0, none⟩ = some (.func (.func 55) #[] #[]) := S2.out.cl.fw.cell 0 _ rfl
        have qg : w2.cell? ⟨w.heap.size + 1 + 1 + 1, 0, none⟩ = some (.func (.func 56) #[] #[.pointer (some ⟨w.heap.size + 1 + 1, 0, none⟩)]) := S2.out.cl.fs.cell 0 _ rfl
        have qo : w2.cell? ⟨O, 2, none⟩ = some v := S2.out.out.cell 2 _ rfl
        have FW := hid (Words.next bx fw)
        have VM := hid (SM.out.2.2.1.2 k hlt)
        have hn : un ≤ 1048576 := SM.out.2.2.1.1
        obtain ⟨hv0, vs', xs, hown, hx⟩ := OU.out
        have hlen : xs.length = k * 3 := hown.1
        have HO := hid (ownsRow_below hown bx (Nat.le_refl _))
        have HX : Hid (∀ j, j < k → (∀ i, i < 3 → xs[j * 3 + i]? = (FR U j (vs' j))[i]?) ∧ InW w2 wrx.heap.size v.ownBlock (uv j) (vs' j) (U.c j)) := fun j hj => ⟨(hx j hj).1, (hx j hj).2.below bx (Nat.le_refl _)⟩
        have HLB : Hid (∀ b, v.ownBlock = some b → wrx.heap.size ≤ b ∧ b < wr.heap.size) := fun b hb => hown.lt b hb
        have hlo := ST.out.lo
        have hWO := HLOu.out
        have NB1 : Hid (some (w.heap.size + 1 + 1) ≠ v.ownBlock) := fun e => by have := (HLB.out _ e.symm).1; omega
        have NB2 : Hid (some (w.heap.size + 1 + 1 + 1) ≠ v.ownBlock) := fun e => by have := (HLB.out _ e.symm).1; omega
        have NB3 : Hid (some wr.heap.size ≠ v.ownBlock) := fun e => by have := (HLB.out _ e.symm).2; omega
        have NBO : Hid (some O ≠ v.ownBlock) := fun e => by have := (HLB.out _ e.symm).1; omega
        have SZ2 : Hid (wr.heap.size + 1 = w2.heap.size) := by show _ = _; rw [← hw2]; simp
        have HWR : Hid (wrx.heap.size ≤ wr.heap.size) := KQ.out.size
        have HW2 := hid hw2
        have BX := hid bx
        have i0 : (0 : Int) ≤ (k : Int) := by omega
        have i1 : (k : Int) < (un : Int) := by omega
        clear hc fw OU hx hown bx hq hw2 hv0 hlo hWO
        go_wp2_with fail
        rw [HW2.out]
        refine wp_region_noPanic ?_
        refine wp_region_pop (S := fun w' => w'.cell? ⟨wr.heap.size, 0, none⟩ = some (.string (U.t k)) ∧ w'.cell? ⟨wr.heap.size, 1, none⟩ = some (.int .i64 (U.l k)) ∧ w'.cell? ⟨wr.heap.size, 2, none⟩ = some (.slice (uv k).a (uv k).n (uv k).c) ∧ w'.cell? ⟨w.heap.size + 1 + 1, 0, none⟩ = some (.func (.func 55) #[] #[]) ∧ w'.cell? ⟨w.heap.size + 1 + 1 + 1, 0, none⟩ = some (.func (.func 56) #[] #[.pointer (some ⟨w.heap.size + 1 + 1, 0, none⟩)]) ∧ w'.cell? ⟨O, 2, none⟩ = some v) 14 (by kernel_rfl) (by kernel_rfl) (by simp only [List.pop_toArray, List.dropLast]; rfl) ⟨cellDrew d0, cellDrew d1, cellDrew d2, cellDrew qf, cellDrew qg, cellDrew qo⟩ (fun hHeld => ?_)
        refine wpAnyH_take (i := 0) (oi := ?_) (v := ?_) ?_ (by kernel_rfl) (by kernel_rfl) (by kernel_rfl) (fun _ _ _ h => h) (Or.inl ⟨?_, ?_⟩) (by assumption) ?_
        rotate_left 2
        · exact (by first | (simp only [List.getElem?_toArray, List.getElem?_cons_zero]; done) | (simp only [List.getElem?_toArray, List.getElem?_cons_zero]; rfl))
        · rfl
        · intro w hSw; (try dsimp only at hSw); go_simp; try with_reducible rfl
        simp only [Act.put, List.setIfInBounds_toArray, List.set_cons_zero, List.set_cons_succ]
        refine wpAnyH_take (i := 1) (oi := ?_) (v := ?_) ?_ (by kernel_rfl) (by kernel_rfl) (by kernel_rfl) (fun _ _ _ h => h) (Or.inl ⟨?_, ?_⟩) (by assumption) ?_
        rotate_left 2
        · exact (by first | (simp only [List.getElem?_toArray, List.getElem?_cons_succ, List.getElem?_cons_zero]; done) | (simp only [List.getElem?_toArray, List.getElem?_cons_succ, List.getElem?_cons_zero]; rfl))
        · rfl
        · intro w hSw; (try dsimp only at hSw); go_simp; try with_reducible rfl
        simp only [Act.put, List.setIfInBounds_toArray, List.set_cons_zero, List.set_cons_succ]
        refine wpAnyH_take (i := 2) (oi := ?_) (v := ?_) ?_ (by kernel_rfl) (by kernel_rfl) (by kernel_rfl) (fun _ _ _ h => h) (Or.inl ⟨?_, ?_⟩) (by assumption) ?_
        rotate_left 2
        · exact (by first | (simp only [List.getElem?_toArray, List.getElem?_cons_succ, List.getElem?_cons_zero]; done) | (simp only [List.getElem?_toArray, List.getElem?_cons_succ, List.getElem?_cons_zero]; rfl))
        · rfl
        · intro w hSw; (try dsimp only at hSw); go_simp; try with_reducible rfl
        simp only [Act.put, List.setIfInBounds_toArray, List.set_cons_zero, List.set_cons_succ]
        refine wpAnyH_take (i := 3) (oi := ?_) (v := ?_) ?_ (by kernel_rfl) (by kernel_rfl) (by kernel_rfl) (fun _ _ _ h => h) (Or.inl ⟨?_, ?_⟩) (by assumption) ?_
        rotate_left 2
        · exact (by first | (simp only [List.getElem?_toArray, List.getElem?_cons_succ, List.getElem?_cons_zero]; done) | (simp only [List.getElem?_toArray, List.getElem?_cons_succ, List.getElem?_cons_zero]; rfl))
        · rfl
        · intro w hSw; (try dsimp only at hSw); go_simp; try with_reducible rfl
        simp only [Act.put, List.setIfInBounds_toArray, List.set_cons_zero, List.set_cons_succ]
        refine wpAnyH_take (i := 4) (oi := ?_) (v := ?_) ?_ (by kernel_rfl) (by kernel_rfl) (by kernel_rfl) (fun _ _ _ h => h) (Or.inl ⟨?_, ?_⟩) (by assumption) ?_
        rotate_left 2
        · exact (by first | (simp only [List.getElem?_toArray, List.getElem?_cons_succ, List.getElem?_cons_zero]; done) | (simp only [List.getElem?_toArray, List.getElem?_cons_succ, List.getElem?_cons_zero]; rfl))
        · rfl
        · intro w hSw; (try dsimp only at hSw); go_simp; try with_reducible rfl
        simp only [Act.put, List.setIfInBounds_toArray, List.set_cons_zero, List.set_cons_succ]
        refine wpAnyH_take (i := 6) (oi := ?_) (v := ?_) ?_ (by kernel_rfl) (by kernel_rfl) (by kernel_rfl) (fun _ _ _ h => h) (Or.inl ⟨?_, ?_⟩) (by assumption) ?_
        rotate_left 2
        · exact (by first | (simp only [List.getElem?_toArray, List.getElem?_cons_succ, List.getElem?_cons_zero]; done) | (simp only [List.getElem?_toArray, List.getElem?_cons_succ, List.getElem?_cons_zero]; rfl))
        · rfl
        · intro w hSw; (try dsimp only at hSw); go_simp; try with_reducible rfl
        simp only [Act.put, List.setIfInBounds_toArray, List.set_cons_zero, List.set_cons_succ]
        refine wpAnyH_take (i := 7) (oi := ?_) (v := ?_) ?_ (by kernel_rfl) (by kernel_rfl) (by kernel_rfl) (fun _ _ _ h => h) (Or.inl ⟨?_, ?_⟩) (by assumption) ?_
        rotate_left 2
        · exact (by first | (simp only [List.getElem?_toArray, List.getElem?_cons_succ, List.getElem?_cons_zero]; done) | (simp only [List.getElem?_toArray, List.getElem?_cons_succ, List.getElem?_cons_zero]; rfl))
        · rfl
        · intro w hSw; (try dsimp only at hSw); go_simp; try with_reducible rfl
        simp only [Act.put, List.setIfInBounds_toArray, List.set_cons_zero, List.set_cons_succ]
        refine wpAnyH_take (i := 8) (oi := ?_) (v := ?_) ?_ (by kernel_rfl) (by kernel_rfl) (by kernel_rfl) (fun _ _ _ h => h) (Or.inl ⟨?_, ?_⟩) (by assumption) ?_
        rotate_left 2
        · exact (by first | (simp only [List.getElem?_toArray, List.getElem?_cons_succ, List.getElem?_cons_zero]; done) | (simp only [List.getElem?_toArray, List.getElem?_cons_succ, List.getElem?_cons_zero]; rfl))
        · rfl
        · intro w hSw; (try dsimp only at hSw); go_simp; try with_reducible rfl
        simp only [Act.put, List.setIfInBounds_toArray, List.set_cons_zero, List.set_cons_succ]
        refine wpAnyH_ready (rs := [5]) (by kernel_rfl) (by simp) ?_
        refine AllReadyH.cons (by first | (simp only [List.getElem?_toArray, List.getElem?_cons_succ, List.getElem?_cons_zero]; done) | (simp only [List.getElem?_toArray, List.getElem?_cons_succ, List.getElem?_cons_zero]; rfl)) (fun K hK => ?_) AllReadyH.nil
        go_simp
        refine (w55 _ _ _).mono ?_
        rintro e w3 ⟨rfl, hb3⟩
        go_wp2_with fail
        refine hK.out _ _ ?_ (fun hHeld => ?_)
        · go_split_ands; exact ⟨cellKeep hb3 (by assumption), cellKeep hb3 (by assumption), cellKeep hb3 (by assumption), cellKeep hb3 (by assumption), cellKeep hb3 (by assumption), cellKeep hb3 (by assumption)⟩
        clear hK K
        try simp only [Act.put, List.setIfInBounds_toArray, List.set_cons_zero, List.set_cons_succ]
        refine wpAnyH_ready (rs := [9]) (by kernel_rfl) (by simp) ?_
        refine AllReadyH.cons (by first | (simp only [List.getElem?_toArray, List.getElem?_cons_succ, List.getElem?_cons_zero]; done) | (simp only [List.getElem?_toArray, List.getElem?_cons_succ, List.getElem?_cons_zero]; rfl)) (fun K hK => ?_) AllReadyH.nil
        go_simp
        refine (w56 (uv k) (U.c k) _ _ (Words.next hb3 FW.out) VM.out (by go_split_ands; assumption)).mono ?_
        rintro e w4 ⟨s', rfl, hl4, hw4, hb4, hfr4⟩
        replace hl4 := hid hl4
        replace hw4 := hid hw4
        replace hfr4 := hid hfr4
        go_wp2_with fail
        refine hK.out _ _ ?_ (fun hHeld => ?_)
        · go_split_ands; exact ⟨cellKeep hb4 (by assumption), cellKeep hb4 (by assumption), cellKeep hb4 (by assumption), cellKeep hb4 (by assumption), cellKeep hb4 (by assumption), cellKeep hb4 (by assumption)⟩
        clear hK K
        try simp only [Act.put, List.setIfInBounds_toArray, List.set_cons_zero, List.set_cons_succ]
        refine wpAnyH_take (i := 10) (oi := ?_) (v := ?_) ?_ (by kernel_rfl) (by kernel_rfl) (by kernel_rfl) (fun _ _ _ h => h) (Or.inl ⟨?_, ?_⟩) (by assumption) ?_
        rotate_left 2
        · exact (by first | (simp only [List.getElem?_toArray, List.getElem?_cons_succ, List.getElem?_cons_zero]; done) | (simp only [List.getElem?_toArray, List.getElem?_cons_succ, List.getElem?_cons_zero]; rfl))
        · rfl
        · intro w hSw; (try dsimp only at hSw); go_simp; try with_reducible rfl
        simp only [Act.put, List.setIfInBounds_toArray, List.set_cons_zero, List.set_cons_succ]
        refine wpAnyH_ready (rs := [11]) (by kernel_rfl) (by simp) ?_
        refine AllReadyH.cons (by first | (simp only [List.getElem?_toArray, List.getElem?_cons_succ, List.getElem?_cons_zero]; done) | (simp only [List.getElem?_toArray, List.getElem?_cons_succ, List.getElem?_cons_zero]; rfl)) (fun K hK => ?_) AllReadyH.nil
        go_simp
        refine hK.out _ _ ?_ (fun hHeld => ?_)
        · go_split_ands; exact ⟨allocKeep (by assumption), allocKeep (by assumption), allocKeep (by assumption), allocKeep (by assumption), allocKeep (by assumption), allocKeep (by assumption)⟩
        clear hK K
        try simp only [Act.put, List.setIfInBounds_toArray, List.set_cons_zero, List.set_cons_succ]
        refine wpAnyH_ready (rs := [12]) (by kernel_rfl) (by simp) ?_
        refine AllReadyH.cons (by first | (simp only [List.getElem?_toArray, List.getElem?_cons_succ, List.getElem?_cons_zero]; done) | (simp only [List.getElem?_toArray, List.getElem?_cons_succ, List.getElem?_cons_zero]; rfl)) (fun K hK => ?_) AllReadyH.nil
        refine step_append_lies _ (by rfl) _ _ 33 (by rfl) wrx.heap.size 84 ti _ 3 48 Try.underlying33 HI.out HZ0.out HZ1.out HZ2.out rfl (by decide) v k xs (by rfl) ((ownsRow_below (ownsRow_below HO.out.drew hb3 (Nat.le_refl _)) hb4 (Nat.le_refl _)).alloc _) ⟨w4.heap.size, 0, none⟩ 1 1 [.string (U.t k), .int .i64 0, .slice s'.a s'.n s'.c] (by rfl) (by rfl) (World.news_of_block (cs := #[.string (U.t k), .int .i64 0, .slice s'.a s'.n s'.c]) (t := 84) (fr := (0, 0)) (heap_alloc_new w4 _)) (by simp [Value.oneCell']) (by omega) (by unfold maxLen; omega) (by omega) (by have h3 : w2.heap.size ≤ w3.heap.size := hb3.size; have h4 := hb4.size; have := SZ2.out; have := HWR.out; simp; omega) (w4.heap.size + 1) (by simp) ?_
        intro g cap w6 hown6 hgrow hat hlt6
        refine hK.out _ _ ?_ (fun hHeld => ?_)
        · go_split_ands; exact ⟨growKeep hgrow (by assumption) NB3.out, growKeep hgrow (by assumption) NB3.out, growKeep hgrow (by assumption) NB3.out, growKeep hgrow (by assumption) NB1.out, growKeep hgrow (by assumption) NB2.out, growKeep hgrow (by assumption) NBO.out⟩
        clear hK K
        try simp only [Act.put, List.setIfInBounds_toArray, List.set_cons_zero, List.set_cons_succ]
        refine wpAnyH_take (i := 13) (oi := ?_) (v := ?_) ?_ (by kernel_rfl) (by kernel_rfl) (by kernel_rfl) (fun _ _ _ h => h) (Or.inl ⟨?_, ?_⟩) (by assumption) ?_
        rotate_left 2
        · exact (by first | (simp only [List.getElem?_toArray, List.getElem?_cons_succ, List.getElem?_cons_zero]; done) | (simp only [List.getElem?_toArray, List.getElem?_cons_succ, List.getElem?_cons_zero]; rfl))
        · rfl
        · intro w hSw; (try dsimp only at hSw); go_simp; try with_reducible rfl
        simp only [Act.put, List.setIfInBounds_toArray, List.set_cons_zero, List.set_cons_succ]
        refine wpAnyH_done (by kernel_rfl) ?_ _
        have h3 : w2.heap.size ≤ w3.heap.size := hb3.size
        have h4 := hb4.size
        have h2 := SZ2.out
        have hWO := HLOu.out
        have hWr := HWR.out
        have hlo := ST.out.lo
        have bl : Below w2.heap.size w2 w4 := ((Below.refl w2.heap.size w2).drew.trans hb3).trans (hb4.mono h3)
        have S6 : Hid (St37 w O #[.slice pa pn pc, .slice ra rn rc, .slice (some ⟨b, of, none⟩) un uc, .slice ga gn gc, .slice xa xn xc, .slice ya yn yc] #[.slice p'.a p'.n p'.c, .slice r'.a r'.n r'.c, v, .slice none 0 0, .slice x'.a x'.n x'.c, .slice y'.a y'.n y'.c] w6) := ((S2.out.next bl).next (belAlloc _ _)).grown hgrow (fun q hq => by have := (HLB.out q hq).1; omega)
        obtain ⟨w7, hw7⟩ : ∃ x, w6.setCell ⟨O, 2, none⟩ (.slice (some ⟨g, 0, none⟩) (k + 1) cap) = x := ⟨_, rfl⟩
        have z7 : w6.frozen? ⟨O, 2, none⟩ = false := S6.out.out.frozen 2
        have c7 : w6.cell? ⟨O, 2, none⟩ = some v := S6.out.out.cell 2 _ rfl
        have hnew : InW w4 wrx.heap.size v.ownBlock (uv k) s' (U.c k) := ⟨hl4.out, hw4.out, fun b hb => by
          have hbb := hfr4.out b hb
          refine ⟨by omega, ?_, fun e => by have := (HLB.out b e.symm).2; omega⟩
          rcases hw4.out with hn0 | ⟨b1, o1, ha1, hc1⟩
          · rw [hl4.out.2 (by have := hl4.out.1; omega)] at hb
            cases hb
          · by_cases hn0 : s'.n = 0
            · rw [hl4.out.2 (by have := hl4.out.1; omega)] at hb
              cases hb
            · have hb1 : b1 < w4.heap.size := World.block_lt_of_cell? w4 _ (hc1 0 (by omega)).1
              rw [ha1] at hb
              have hbe : b1 = b := by simpa using hb
              omega⟩
        have al : Below w4.heap.size w4 (w4.alloc (Obj.cells #[.string (U.t k), .int .i64 0, .slice s'.a s'.n s'.c] 84)) := belAlloc _ _
        have OU6 : OutX 84 3 (FR U) w6 wrx.heap.size (.slice (some ⟨g, 0, none⟩) (k + 1) cap) (k + 1) uv U.c := outX_snoc hlen (fun j hj => ⟨(HX.out j hj).1, ((HX.out j hj).2.below bl (Nat.le_refl _)).below al (Nat.le_refl _)⟩) (hnew.below al (Nat.le_refl _)) hgrow (hat.imp id (fun h => by rw [h]; simp)) hown6
        have OU7 : Hid (OutX 84 3 (FR U) w7 wrx.heap.size (.slice (some ⟨g, 0, none⟩) (k + 1) cap) (k + 1) uv U.c) := OU6.kp (hw7 ▸ (Kp.refl _ _).set ⟨O, 2, none⟩ _ (Or.inl hWO))
        have S7 : Hid (St37 w O #[.slice pa pn pc, .slice ra rn rc, .slice (some ⟨b, of, none⟩) un uc, .slice ga gn gc, .slice xa xn xc, .slice ya yn yc] #[.slice p'.a p'.n p'.c, .slice r'.a r'.n r'.c, .slice (some ⟨g, 0, none⟩) (k + 1) cap, .slice none 0 0, .slice x'.a x'.n x'.c, .slice y'.a y'.n y'.c] w7) := hw7 ▸ S6.out.set 2 _
        have KQ7 : Hid (Kq (w.heap.size + 1 + 1 + 1 + 1) O wrx w7) := hw7 ▸ ((((KQ.out.below BX.out (Nat.le_refl _)).below bl (Nat.le_refl _)).below al (Nat.le_refl _)).grown hgrow (fun q hq => (HLB.out q hq).1)).set 2 _
        clear hown6 hgrow hat hlt6 hnew al bl h2 h3 h4 hb3 hb4 OU6 hWO hWr hlo S6
        refine popQ_last (by first | (simp only [List.getElem?_toArray, List.getElem?_cons_succ, List.getElem?_cons_zero]; done) | (simp only [List.getElem?_toArray, List.getElem?_cons_succ, List.getElem?_cons_zero]; rfl)) (fun K hK => ?_)
        go_simp
        refine hK.out _ _ ?_
        clear hK K
        refine NoPanic.normal ?_
        clear hHeld
        go_wp2
        go_roundw
        case rel => exact ⟨k + 1, .slice (some ⟨g, 0, none⟩) (k + 1) cap, by omega, by go_num, S7, OU7, KQ7⟩
        case measure => simp [intOf]; omega
      obtain ⟨wux, rfl⟩ : ∃ x, x = wr := ⟨_, rfl⟩
      obtain rfl : un = k := by omega
      obtain ⟨u', uv', rfl, e1, e2⟩ := outX_roles (s := ⟨ua, un, uc⟩) OU.out
      have E1 := hid e1
      have LU : Hid ((u'.n = un ∧ (un = 0 → u' = ⟨none, 0, 0⟩)) ∧ (∀ i, i < un → (uv' i).n = (uv i).n ∧ ((uv i).n = 0 → uv' i = ⟨none, 0, 0⟩))) := ⟨e2.1, e2.2.1⟩
      have hWO := HLOu.out
      have hlo := ST.out.lo
      have RH : Hid (RQ (w.heap.size + 1 + 1 + 1 + 1) O wux u' uv') := ⟨fun b hb _ => by have := (e2.2.2.1 b hb).1; omega, fun i hi b hb _ => by have := e2.2.2.2 i (by rw [← e2.1.1]; exact hi) b hb; omega⟩
      have ALL2 : Hid (∀ wj, Kq (w.heap.size + 1 + 1 + 1 + 1) O wux wj → ((Words wj p' P.bare ∧ Grants wj x' xv' X.bare ∧ Grants wj y' yv' Y.bare) ∧ Roles wj r' rv' R.bare) ∧ Roles wj u' uv' U.bare) := fun wj h => ⟨ALL.out wj (KQ.out.trans h), E1.out.kq RH.out h⟩
      clear e1 e2 E1 RH OU KQ ST ALL hWO hlo hlt hk HI HZ0 HZ1 HZ2 HLOu ti
      have ST := SZ
      have ALL := ALL2
      clear SZ ALL2
      have q3 : wux.cell? ⟨w.heap.size, 3, none⟩ = some (.slice ga gn gc) := ST.out.cl.box.cell 3 _ rfl
      have HLOg : Hid (O < wux.heap.size) := ST.out.out.lt
      obtain ⟨ti, hi0, hz0, hz1, hz2⟩ := info_parts info86
      have HI := hid hi0
      have HZ0 := hid hz0
      have HZ1 := hid hz1
      have HZ2 := hid hz2
      clear hi0 hz0 hz1 hz2
      go_wp2
      go_loopw [75] (fun i wr => ∃ (k : Nat) (v : Value), k ≤ gn ∧ i = .int .i64 k ∧ Hid (St37 w O #[.slice pa pn pc, .slice ra rn rc, .slice ua un uc, .slice ga gn gc, .slice xa xn xc, .slice ya yn yc] #[.slice p'.a p'.n p'.c, .slice r'.a r'.n r'.c, .slice u'.a u'.n u'.c, v, .slice x'.a x'.n x'.c, .slice y'.a y'.n y'.c] wr) ∧ Hid (OutX 86 6 (FG G) wr wux.heap.size v k gv G.c) ∧ Hid (Kq (w.heap.size + 1 + 1 + 1 + 1) O wux wr)) (fun i _ => gn - (intOf i).toNat)
      case atStart => exact ⟨0, .slice none 0 0, Nat.zero_le _, rfl, ST.out, outX_nil _ _ _ _ _ _ _, Kq.refl _ _ _⟩
      case round =>
        obtain ⟨k, v, hk, rfl, SZ, OU, KQ⟩ := hrel
        by_cases hlt : k < gn
        · skip
          rcases HS0.out.2.2.2.1.below SZ.out.cl.below (Nat.le_refl _) with h | ⟨b, of, ha, hc⟩
          · exact absurd h (by dsimp only; omega)
          dsimp only at ha
          subst ha
          obtain ⟨f0, f1, f2, f3, f4, f5, fw⟩ := hc k hlt
          obtain ⟨w2, hw2⟩ : ∃ w2, wr.alloc (Obj.cells #[.int .i64 (G.l0 k), .string (G.t1 k), .int .i64 (G.l1 k), .slice (gv k).a (gv k).n (gv k).c, .string (G.t2 k), .int .i64 (G.l2 k)] 86) = w2 := ⟨_, rfl⟩
          have bx : Below wr.heap.size wr w2 := hw2 ▸ belAlloc _ _
          have hq : Blk w2 wr.heap.size 86 #[.int .i64 (G.l0 k), .string (G.t1 k), .int .i64 (G.l1 k), .slice (gv k).a (gv k).n (gv k).c, .string (G.t2 k), .int .i64 (G.l2 k)] := hw2 ▸ blk_new _ _ _
          have d1 : w2.cell? ⟨wr.heap.size, 1, none⟩ = some (.string (G.t1 k)) := hq.cell 1 _ rfl
          have d2 : w2.cell? ⟨wr.heap.size, 2, none⟩ = some (.int .i64 (G.l1 k)) := hq.cell 2 _ rfl
          have d3 : w2.cell? ⟨wr.heap.size, 3, none⟩ = some (.slice (gv k).a (gv k).n (gv k).c) := hq.cell 3 _ rfl
          have d4 : w2.cell? ⟨wr.heap.size, 4, none⟩ = some (.string (G.t2 k)) := hq.cell 4 _ rfl
          have d5 : w2.cell? ⟨wr.heap.size, 5, none⟩ = some (.int .i64 (G.l2 k)) := hq.cell 5 _ rfl
          have S2 := hid (SZ.out.next bx)
          have qf : w2.cell? ⟨w.heap.size + 1 + 1, 0, none⟩ = some (.func (.func 55) #[] #[]) := S2.out.cl.fw.cell 0 _ rfl
          have qg : w2.cell? ⟨w.heap.size + 1 + 1 + 1, 0, none⟩ = some (.func (.func 56) #[] #[.pointer (some ⟨w.heap.size + 1 + 1, 0, none⟩)]) := S2.out.cl.fs.cell 0 _ rfl
          have qo : w2.cell? ⟨O, 3, none⟩ = some v := S2.out.out.cell 3 _ rfl
          have FW := hid (Words.next bx fw)
          have VM := hid (SM.out.2.2.2.1.2 k hlt)
          have hn : gn ≤ 1048576 := SM.out.2.2.2.1.1
          obtain ⟨hv0, vs', xs, hown, hx⟩ := OU.out
          have hlen : xs.length = k * 6 := hown.1
          have HO := hid (ownsRow_below hown bx (Nat.le_refl _))
          have HX : Hid (∀ j, j < k → (∀ i, i < 6 → xs[j * 6 + i]? = (FG G j (vs' j))[i]?) ∧ InW w2 wux.heap.size v.ownBlock (gv j) (vs' j) (G.c j)) := fun j hj => ⟨(hx j hj).1, (hx j hj).2.below bx (Nat.le_refl _)⟩
          have HLB : Hid (∀ b, v.ownBlock = some b → wux.heap.size ≤ b ∧ b < wr.heap.size) := fun b hb => hown.lt b hb
          have hlo := ST.out.lo
          have hWO := HLOg.out
          have NB1 : Hid (some (w.heap.size + 1 + 1) ≠ v.ownBlock) := fun e => by have := (HLB.out _ e.symm).1; omega
          have NB2 : Hid (some (w.heap.size + 1 + 1 + 1) ≠ v.ownBlock) := fun e => by have := (HLB.out _ e.symm).1; omega
          have NB3 : Hid (some wr.heap.size ≠ v.ownBlock) := fun e => by have := (HLB.out _ e.symm).2; omega
          have NBO : Hid (some O ≠ v.ownBlock) := fun e => by have := (HLB.out _ e.symm).1; omega
          have SZ2 : Hid (wr.heap.size + 1 = w2.heap.size) := by show _ = _; rw [← hw2]; simp
          have HWR : Hid (wux.heap.size ≤ wr.heap.size) := KQ.out.size
          have HW2 := hid hw2
          have BX := hid bx
          have i0 : (0 : Int) ≤ (k : Int) := by omega
          have i1 : (k : Int) < (gn : Int) := by omega
          clear hc fw OU hx hown bx hq hw2 hv0 hlo hWO
          go_wp2_with fail
          rw [HW2.out]
          refine wp_region_noPanic ?_
          refine wp_region_pop (S := fun w' => w'.cell? ⟨wr.heap.size, 1, none⟩ = some (.string (G.t1 k)) ∧ w'.cell? ⟨wr.heap.size, 2, none⟩ = some (.int .i64 (G.l1 k)) ∧ w'.cell? ⟨wr.heap.size, 3, none⟩ = some (.slice (gv k).a (gv k).n (gv k).c) ∧ w'.cell? ⟨wr.heap.size, 4, none⟩ = some (.string (G.t2 k)) ∧ w'.cell? ⟨wr.heap.size, 5, none⟩ = some (.int .i64 (G.l2 k)) ∧ w'.cell? ⟨w.heap.size + 1 + 1, 0, none⟩ = some (.func (.func 55) #[] #[]) ∧ w'.cell? ⟨w.heap.size + 1 + 1 + 1, 0, none⟩ = some (.func (.func 56) #[] #[.pointer (some ⟨w.heap.size + 1 + 1, 0, none⟩)]) ∧ w'.cell? ⟨O, 3, none⟩ = some v) 18 (by kernel_rfl) (by kernel_rfl) (by simp only [List.pop_toArray, List.dropLast]; rfl) ⟨cellDrew d1, cellDrew d2, cellDrew d3, cellDrew d4, cellDrew d5, cellDrew qf, cellDrew qg, cellDrew qo⟩ (fun hHeld => ?_)
          refine wpAnyH_take (i := 0) (oi := ?_) (v := ?_) ?_ (by kernel_rfl) (by kernel_rfl) (by kernel_rfl) (fun _ _ _ h => h) (Or.inl ⟨?_, ?_⟩) (by assumption) ?_
          rotate_left 2
          · exact (by first | (simp only [List.getElem?_toArray, List.getElem?_cons_zero]; done) | (simp only [List.getElem?_toArray, List.getElem?_cons_zero]; rfl))
          · rfl
          · intro w hSw; (try dsimp only at hSw); go_simp; try with_reducible rfl
          simp only [Act.put, List.setIfInBounds_toArray, List.set_cons_zero, List.set_cons_succ]
          refine wpAnyH_take (i := 1) (oi := ?_) (v := ?_) ?_ (by kernel_rfl) (by kernel_rfl) (by kernel_rfl) (fun _ _ _ h => h) (Or.inl ⟨?_, ?_⟩) (by assumption) ?_
          rotate_left 2
          · exact (by first | (simp only [List.getElem?_toArray, List.getElem?_cons_succ, List.getElem?_cons_zero]; done) | (simp only [List.getElem?_toArray, List.getElem?_cons_succ, List.getElem?_cons_zero]; rfl))
          · rfl
          · intro w hSw; (try dsimp only at hSw); go_simp; try with_reducible rfl
          simp only [Act.put, List.setIfInBounds_toArray, List.set_cons_zero, List.set_cons_succ]
          refine wpAnyH_take (i := 2) (oi := ?_) (v := ?_) ?_ (by kernel_rfl) (by kernel_rfl) (by kernel_rfl) (fun _ _ _ h => h) (Or.inl ⟨?_, ?_⟩) (by assumption) ?_
          rotate_left 2
          · exact (by first | (simp only [List.getElem?_toArray, List.getElem?_cons_succ, List.getElem?_cons_zero]; done) | (simp only [List.getElem?_toArray, List.getElem?_cons_succ, List.getElem?_cons_zero]; rfl))
          · rfl
          · intro w hSw; (try dsimp only at hSw); go_simp; try with_reducible rfl
          simp only [Act.put, List.setIfInBounds_toArray, List.set_cons_zero, List.set_cons_succ]
          refine wpAnyH_take (i := 3) (oi := ?_) (v := ?_) ?_ (by kernel_rfl) (by kernel_rfl) (by kernel_rfl) (fun _ _ _ h => h) (Or.inl ⟨?_, ?_⟩) (by assumption) ?_
          rotate_left 2
          · exact (by first | (simp only [List.getElem?_toArray, List.getElem?_cons_succ, List.getElem?_cons_zero]; done) | (simp only [List.getElem?_toArray, List.getElem?_cons_succ, List.getElem?_cons_zero]; rfl))
          · rfl
          · intro w hSw; (try dsimp only at hSw); go_simp; try with_reducible rfl
          simp only [Act.put, List.setIfInBounds_toArray, List.set_cons_zero, List.set_cons_succ]
          refine wpAnyH_take (i := 4) (oi := ?_) (v := ?_) ?_ (by kernel_rfl) (by kernel_rfl) (by kernel_rfl) (fun _ _ _ h => h) (Or.inl ⟨?_, ?_⟩) (by assumption) ?_
          rotate_left 2
          · exact (by first | (simp only [List.getElem?_toArray, List.getElem?_cons_succ, List.getElem?_cons_zero]; done) | (simp only [List.getElem?_toArray, List.getElem?_cons_succ, List.getElem?_cons_zero]; rfl))
          · rfl
          · intro w hSw; (try dsimp only at hSw); go_simp; try with_reducible rfl
          simp only [Act.put, List.setIfInBounds_toArray, List.set_cons_zero, List.set_cons_succ]
          refine wpAnyH_take (i := 6) (oi := ?_) (v := ?_) ?_ (by kernel_rfl) (by kernel_rfl) (by kernel_rfl) (fun _ _ _ h => h) (Or.inl ⟨?_, ?_⟩) (by assumption) ?_
          rotate_left 2
          · exact (by first | (simp only [List.getElem?_toArray, List.getElem?_cons_succ, List.getElem?_cons_zero]; done) | (simp only [List.getElem?_toArray, List.getElem?_cons_succ, List.getElem?_cons_zero]; rfl))
          · rfl
          · intro w hSw; (try dsimp only at hSw); go_simp; try with_reducible rfl
          simp only [Act.put, List.setIfInBounds_toArray, List.set_cons_zero, List.set_cons_succ]
          refine wpAnyH_take (i := 7) (oi := ?_) (v := ?_) ?_ (by kernel_rfl) (by kernel_rfl) (by kernel_rfl) (fun _ _ _ h => h) (Or.inl ⟨?_, ?_⟩) (by assumption) ?_
          rotate_left 2
          · exact (by first | (simp only [List.getElem?_toArray, List.getElem?_cons_succ, List.getElem?_cons_zero]; done) | (simp only [List.getElem?_toArray, List.getElem?_cons_succ, List.getElem?_cons_zero]; rfl))
          · rfl
          · intro w hSw; (try dsimp only at hSw); go_simp; try with_reducible rfl
          simp only [Act.put, List.setIfInBounds_toArray, List.set_cons_zero, List.set_cons_succ]
          refine wpAnyH_take (i := 8) (oi := ?_) (v := ?_) ?_ (by kernel_rfl) (by kernel_rfl) (by kernel_rfl) (fun _ _ _ h => h) (Or.inl ⟨?_, ?_⟩) (by assumption) ?_
          rotate_left 2
          · exact (by first | (simp only [List.getElem?_toArray, List.getElem?_cons_succ, List.getElem?_cons_zero]; done) | (simp only [List.getElem?_toArray, List.getElem?_cons_succ, List.getElem?_cons_zero]; rfl))
          · rfl
          · intro w hSw; (try dsimp only at hSw); go_simp; try with_reducible rfl
          simp only [Act.put, List.setIfInBounds_toArray, List.set_cons_zero, List.set_cons_succ]
          refine wpAnyH_take (i := 10) (oi := ?_) (v := ?_) ?_ (by kernel_rfl) (by kernel_rfl) (by kernel_rfl) (fun _ _ _ h => h) (Or.inl ⟨?_, ?_⟩) (by assumption) ?_
          rotate_left 2
          · exact (by first | (simp only [List.getElem?_toArray, List.getElem?_cons_succ, List.getElem?_cons_zero]; done) | (simp only [List.getElem?_toArray, List.getElem?_cons_succ, List.getElem?_cons_zero]; rfl))
          · rfl
          · intro w hSw; (try dsimp only at hSw); go_simp; try with_reducible rfl
          simp only [Act.put, List.setIfInBounds_toArray, List.set_cons_zero, List.set_cons_succ]
          refine wpAnyH_take (i := 11) (oi := ?_) (v := ?_) ?_ (by kernel_rfl) (by kernel_rfl) (by kernel_rfl) (fun _ _ _ h => h) (Or.inl ⟨?_, ?_⟩) (by assumption) ?_
          rotate_left 2
          · exact (by first | (simp only [List.getElem?_toArray, List.getElem?_cons_succ, List.getElem?_cons_zero]; done) | (simp only [List.getElem?_toArray, List.getElem?_cons_succ, List.getElem?_cons_zero]; rfl))
          · rfl
          · intro w hSw; (try dsimp only at hSw); go_simp; try with_reducible rfl
          simp only [Act.put, List.setIfInBounds_toArray, List.set_cons_zero, List.set_cons_succ]
          refine wpAnyH_take (i := 12) (oi := ?_) (v := ?_) ?_ (by kernel_rfl) (by kernel_rfl) (by kernel_rfl) (fun _ _ _ h => h) (Or.inl ⟨?_, ?_⟩) (by assumption) ?_
          rotate_left 2
          · exact (by first | (simp only [List.getElem?_toArray, List.getElem?_cons_succ, List.getElem?_cons_zero]; done) | (simp only [List.getElem?_toArray, List.getElem?_cons_succ, List.getElem?_cons_zero]; rfl))
          · rfl
          · intro w hSw; (try dsimp only at hSw); go_simp; try with_reducible rfl
          simp only [Act.put, List.setIfInBounds_toArray, List.set_cons_zero, List.set_cons_succ]
          refine wpAnyH_ready (rs := [5]) (by kernel_rfl) (by simp) ?_
          refine AllReadyH.cons (by first | (simp only [List.getElem?_toArray, List.getElem?_cons_succ, List.getElem?_cons_zero]; done) | (simp only [List.getElem?_toArray, List.getElem?_cons_succ, List.getElem?_cons_zero]; rfl)) (fun K hK => ?_) AllReadyH.nil
          go_simp
          refine (w55 _ _ _).mono ?_
          rintro e w3 ⟨rfl, hb3⟩
          go_wp2_with fail
          refine hK.out _ _ ?_ (fun hHeld => ?_)
          · go_split_ands; exact ⟨cellKeep hb3 (by assumption), cellKeep hb3 (by assumption), cellKeep hb3 (by assumption), cellKeep hb3 (by assumption), cellKeep hb3 (by assumption), cellKeep hb3 (by assumption), cellKeep hb3 (by assumption), cellKeep hb3 (by assumption)⟩
          clear hK K
          try simp only [Act.put, List.setIfInBounds_toArray, List.set_cons_zero, List.set_cons_succ]
          refine wpAnyH_ready (rs := [9]) (by kernel_rfl) (by simp) ?_
          refine AllReadyH.cons (by first | (simp only [List.getElem?_toArray, List.getElem?_cons_succ, List.getElem?_cons_zero]; done) | (simp only [List.getElem?_toArray, List.getElem?_cons_succ, List.getElem?_cons_zero]; rfl)) (fun K hK => ?_) AllReadyH.nil
          go_simp
          refine (w56 (gv k) (G.c k) _ _ (Words.next hb3 FW.out) VM.out (by go_split_ands; assumption)).mono ?_
          rintro e w4 ⟨s', rfl, hl4, hw4, hb4, hfr4⟩
          replace hl4 := hid hl4
          replace hw4 := hid hw4
          replace hfr4 := hid hfr4
          go_wp2_with fail
          refine hK.out _ _ ?_ (fun hHeld => ?_)
          · go_split_ands; exact ⟨cellKeep hb4 (by assumption), cellKeep hb4 (by assumption), cellKeep hb4 (by assumption), cellKeep hb4 (by assumption), cellKeep hb4 (by assumption), cellKeep hb4 (by assumption), cellKeep hb4 (by assumption), cellKeep hb4 (by assumption)⟩
          clear hK K
          try simp only [Act.put, List.setIfInBounds_toArray, List.set_cons_zero, List.set_cons_succ]
          refine wpAnyH_ready (rs := [13]) (by kernel_rfl) (by simp) ?_
          refine AllReadyH.cons (by first | (simp only [List.getElem?_toArray, List.getElem?_cons_succ, List.getElem?_cons_zero]; done) | (simp only [List.getElem?_toArray, List.getElem?_cons_succ, List.getElem?_cons_zero]; rfl)) (fun K hK => ?_) AllReadyH.nil
          go_simp
          refine (w55 _ _ _).mono ?_
          rintro e w5 ⟨rfl, hb5⟩
          go_wp2_with fail
          refine hK.out _ _ ?_ (fun hHeld => ?_)
          · go_split_ands; exact ⟨cellKeep hb5 (by assumption), cellKeep hb5 (by assumption), cellKeep hb5 (by assumption), cellKeep hb5 (by assumption), cellKeep hb5 (by assumption), cellKeep hb5 (by assumption), cellKeep hb5 (by assumption), cellKeep hb5 (by assumption)⟩
          clear hK K
          try simp only [Act.put, List.setIfInBounds_toArray, List.set_cons_zero, List.set_cons_succ]
          refine wpAnyH_take (i := 14) (oi := ?_) (v := ?_) ?_ (by kernel_rfl) (by kernel_rfl) (by kernel_rfl) (fun _ _ _ h => h) (Or.inl ⟨?_, ?_⟩) (by assumption) ?_
          rotate_left 2
          · exact (by first | (simp only [List.getElem?_toArray, List.getElem?_cons_succ, List.getElem?_cons_zero]; done) | (simp only [List.getElem?_toArray, List.getElem?_cons_succ, List.getElem?_cons_zero]; rfl))
          · rfl
          · intro w hSw; (try dsimp only at hSw); go_simp; try with_reducible rfl
          simp only [Act.put, List.setIfInBounds_toArray, List.set_cons_zero, List.set_cons_succ]
          refine wpAnyH_ready (rs := [15]) (by kernel_rfl) (by simp) ?_
          refine AllReadyH.cons (by first | (simp only [List.getElem?_toArray, List.getElem?_cons_succ, List.getElem?_cons_zero]; done) | (simp only [List.getElem?_toArray, List.getElem?_cons_succ, List.getElem?_cons_zero]; rfl)) (fun K hK => ?_) AllReadyH.nil
          go_simp
          refine hK.out _ _ ?_ (fun hHeld => ?_)
          · go_split_ands; exact ⟨allocKeep (by assumption), allocKeep (by assumption), allocKeep (by assumption), allocKeep (by assumption), allocKeep (by assumption), allocKeep (by assumption), allocKeep (by assumption), allocKeep (by assumption)⟩
          clear hK K
          try simp only [Act.put, List.setIfInBounds_toArray, List.set_cons_zero, List.set_cons_succ]
          refine wpAnyH_ready (rs := [16]) (by kernel_rfl) (by simp) ?_
          refine AllReadyH.cons (by first | (simp only [List.getElem?_toArray, List.getElem?_cons_succ, List.getElem?_cons_zero]; done) | (simp only [List.getElem?_toArray, List.getElem?_cons_succ, List.getElem?_cons_zero]; rfl)) (fun K hK => ?_) AllReadyH.nil
          refine step_append_lies _ (by rfl) _ _ 34 (by rfl) wux.heap.size 86 ti _ 6 80 Try.underlying34 HI.out HZ0.out HZ1.out HZ2.out rfl (by decide) v k xs (by rfl) ((ownsRow_below (ownsRow_below (ownsRow_below HO.out.drew hb3 (Nat.le_refl _)) hb4 (Nat.le_refl _)) hb5 (Nat.le_refl _)).alloc _) ⟨w5.heap.size, 0, none⟩ 1 1 [.int .i64 0, .string (G.t1 k), .int .i64 0, .slice s'.a s'.n s'.c, .string (G.t2 k), .int .i64 0] (by rfl) (by rfl) (World.news_of_block (cs := #[.int .i64 0, .string (G.t1 k), .int .i64 0, .slice s'.a s'.n s'.c, .string (G.t2 k), .int .i64 0]) (t := 86) (fr := (0, 0)) (heap_alloc_new w5 _)) (by simp [Value.oneCell']) (by omega) (by unfold maxLen; omega) (by omega) (by have h3 : w2.heap.size ≤ w3.heap.size := hb3.size; have h4 := hb4.size; have h5 := hb5.size; have := SZ2.out; have := HWR.out; simp; omega) (w5.heap.size + 1) (by simp) ?_
          intro g cap w6 hown6 hgrow hat hlt6
          refine hK.out _ _ ?_ (fun hHeld => ?_)
          · go_split_ands; exact ⟨growKeep hgrow (by assumption) NB3.out, growKeep hgrow (by assumption) NB3.out, growKeep hgrow (by assumption) NB3.out, growKeep hgrow (by assumption) NB3.out, growKeep hgrow (by assumption) NB3.out, growKeep hgrow (by assumption) NB1.out, growKeep hgrow (by assumption) NB2.out, growKeep hgrow (by assumption) NBO.out⟩
          clear hK K
          try simp only [Act.put, List.setIfInBounds_toArray, List.set_cons_zero, List.set_cons_succ]
          refine wpAnyH_take (i := 17) (oi := ?_) (v := ?_) ?_ (by kernel_rfl) (by kernel_rfl) (by kernel_rfl) (fun _ _ _ h => h) (Or.inl ⟨?_, ?_⟩) (by assumption) ?_
          rotate_left 2
          · exact (by first | (simp only [List.getElem?_toArray, List.getElem?_cons_succ, List.getElem?_cons_zero]; done) | (simp only [List.getElem?_toArray, List.getElem?_cons_succ, List.getElem?_cons_zero]; rfl))
          · rfl
          · intro w hSw; (try dsimp only at hSw); go_simp; try with_reducible rfl
          simp only [Act.put, List.setIfInBounds_toArray, List.set_cons_zero, List.set_cons_succ]
          refine wpAnyH_done (by kernel_rfl) ?_ _
          have h3 : w2.heap.size ≤ w3.heap.size := hb3.size
          have h4 := hb4.size
          have h5 := hb5.size
          have h2 := SZ2.out
          have hWO := HLOg.out
          have hWr := HWR.out
          have hlo := ST.out.lo
          have bl : Below w2.heap.size w2 w5 := ((Below.refl w2.heap.size w2).drew.trans hb3).trans ((hb4.trans (hb5.mono h4)).mono h3)
          have S6 : Hid (St37 w O #[.slice pa pn pc, .slice ra rn rc, .slice ua un uc, .slice (some ⟨b, of, none⟩) gn gc, .slice xa xn xc, .slice ya yn yc] #[.slice p'.a p'.n p'.c, .slice r'.a r'.n r'.c, .slice u'.a u'.n u'.c, v, .slice x'.a x'.n x'.c, .slice y'.a y'.n y'.c] w6) := ((S2.out.next bl).next (belAlloc _ _)).grown hgrow (fun q hq => by have := (HLB.out q hq).1; omega)
          obtain ⟨w7, hw7⟩ : ∃ x, w6.setCell ⟨O, 3, none⟩ (.slice (some ⟨g, 0, none⟩) (k + 1) cap) = x := ⟨_, rfl⟩
          have z7 : w6.frozen? ⟨O, 3, none⟩ = false := S6.out.out.frozen 3
          have c7 : w6.cell? ⟨O, 3, none⟩ = some v := S6.out.out.cell 3 _ rfl
          have hnew : InW w5 wux.heap.size v.ownBlock (gv k) s' (G.c k) := ⟨hl4.out, hw4.out.below hb5 (Nat.le_refl _), fun b hb => by
            have hbb := hfr4.out b hb
            refine ⟨by omega, ?_, fun e => by have := (HLB.out b e.symm).2; omega⟩
            rcases hw4.out with hn0 | ⟨b1, o1, ha1, hc1⟩
            · rw [hl4.out.2 (by have := hl4.out.1; omega)] at hb
              cases hb
            · by_cases hn0 : s'.n = 0
              · rw [hl4.out.2 (by have := hl4.out.1; omega)] at hb
                cases hb
              · have hb1 : b1 < w4.heap.size := World.block_lt_of_cell? w4 _ (hc1 0 (by omega)).1
                rw [ha1] at hb
                have hbe : b1 = b := by simpa using hb
                omega⟩
          have al : Below w5.heap.size w5 (w5.alloc (Obj.cells #[.int .i64 0, .string (G.t1 k), .int .i64 0, .slice s'.a s'.n s'.c, .string (G.t2 k), .int .i64 0] 86)) := belAlloc _ _
          have OU6 : OutX 86 6 (FG G) w6 wux.heap.size (.slice (some ⟨g, 0, none⟩) (k + 1) cap) (k + 1) gv G.c := outX_snoc hlen (fun j hj => ⟨(HX.out j hj).1, ((HX.out j hj).2.below bl (Nat.le_refl _)).below al (Nat.le_refl _)⟩) (hnew.below al (Nat.le_refl _)) hgrow (hat.imp id (fun h => by rw [h]; simp)) hown6
          have OU7 : Hid (OutX 86 6 (FG G) w7 wux.heap.size (.slice (some ⟨g, 0, none⟩) (k + 1) cap) (k + 1) gv G.c) := OU6.kp (hw7 ▸ (Kp.refl _ _).set ⟨O, 3, none⟩ _ (Or.inl hWO))
          have S7 : Hid (St37 w O #[.slice pa pn pc, .slice ra rn rc, .slice ua un uc, .slice (some ⟨b, of, none⟩) gn gc, .slice xa xn xc, .slice ya yn yc] #[.slice p'.a p'.n p'.c, .slice r'.a r'.n r'.c, .slice u'.a u'.n u'.c, .slice (some ⟨g, 0, none⟩) (k + 1) cap, .slice x'.a x'.n x'.c, .slice y'.a y'.n y'.c] w7) := hw7 ▸ S6.out.set 3 _
          have KQ7 : Hid (Kq (w.heap.size + 1 + 1 + 1 + 1) O wux w7) := hw7 ▸ ((((KQ.out.below BX.out (Nat.le_refl _)).below bl (Nat.le_refl _)).below al (Nat.le_refl _)).grown hgrow (fun q hq => (HLB.out q hq).1)).set 3 _
          clear hown6 hgrow hat hlt6 hnew al bl h2 h3 h4 hb3 hb4 OU6 hWO hWr hlo S6 hb5 h5
          refine popQ_last (by first | (simp only [List.getElem?_toArray, List.getElem?_cons_succ, List.getElem?_cons_zero]; done) | (simp only [List.getElem?_toArray, List.getElem?_cons_succ, List.getElem?_cons_zero]; rfl)) (fun K hK => ?_)
          go_simp
          refine hK.out _ _ ?_
          clear hK K
          refine NoPanic.normal ?_
          clear hHeld
          go_wp2
          go_roundw
          case rel => exact ⟨k + 1, .slice (some ⟨g, 0, none⟩) (k + 1) cap, by omega, by go_num, S7, OU7, KQ7⟩
          case measure => simp [intOf]; omega
        obtain ⟨wgx, rfl⟩ : ∃ x, x = wr := ⟨_, rfl⟩
        obtain rfl : gn = k := by omega
        obtain ⟨g', gv', rfl, e1, e2⟩ := outX_grants (s := ⟨ga, gn, gc⟩) OU.out
        have E1 := hid e1
        have LG : Hid ((g'.n = gn ∧ (gn = 0 → g' = ⟨none, 0, 0⟩)) ∧ (∀ i, i < gn → (gv' i).n = (gv i).n ∧ ((gv i).n = 0 → gv' i = ⟨none, 0, 0⟩))) := ⟨e2.1, e2.2.1⟩
        have hWO := HLOg.out
        have hlo := ST.out.lo
        have RH : Hid (RQ (w.heap.size + 1 + 1 + 1 + 1) O wgx g' gv') := ⟨fun b hb _ => by have := (e2.2.2.1 b hb).1; omega, fun i hi b hb _ => by have := e2.2.2.2 i (by rw [← e2.1.1]; exact hi) b hb; omega⟩
        have ALL2 : Hid (∀ wj, Kq (w.heap.size + 1 + 1 + 1 + 1) O wgx wj → (((Words wj p' P.bare ∧ Grants wj x' xv' X.bare ∧ Grants wj y' yv' Y.bare) ∧ Roles wj r' rv' R.bare) ∧ Roles wj u' uv' U.bare) ∧ Grants wj g' gv' G.bare) := fun wj h => ⟨ALL.out wj (KQ.out.trans h), E1.out.kq RH.out h⟩
        clear e1 e2 E1 RH OU KQ ST ALL hWO hlo hlt hk HI HZ0 HZ1 HZ2 HLOg ti
        have ST := SZ
        have ALL := ALL2
        clear SZ ALL2
        have r0 : wgx.cell? ⟨O, 0, none⟩ = some (.slice p'.a p'.n p'.c) := ST.out.out.cell 0 _ rfl
        have r1 : wgx.cell? ⟨O, 1, none⟩ = some (.slice r'.a r'.n r'.c) := ST.out.out.cell 1 _ rfl
        have r2 : wgx.cell? ⟨O, 2, none⟩ = some (.slice u'.a u'.n u'.c) := ST.out.out.cell 2 _ rfl
        have r3 : wgx.cell? ⟨O, 3, none⟩ = some (.slice g'.a g'.n g'.c) := ST.out.out.cell 3 _ rfl
        have r4 : wgx.cell? ⟨O, 4, none⟩ = some (.slice x'.a x'.n x'.c) := ST.out.out.cell 4 _ rfl
        have r5 : wgx.cell? ⟨O, 5, none⟩ = some (.slice y'.a y'.n y'.c) := ST.out.out.cell 5 _ rfl
        obtain ⟨x1, x2, x3, x4, x5, x6, e1, e2, e3, e4, e5, e6, k0, y0, k1, y1, k2, y2, k3, y3, k4, y4, k5, y5, t0, t1, t2, t3, t4, t5, KE, BE⟩ := storeRes ST.out.cl.res (.slice p'.a p'.n p'.c) (.slice r'.a r'.n r'.c) (.slice u'.a u'.n u'.c) (.slice g'.a g'.n g'.c) (.slice x'.a x'.n x'.c) (.slice y'.a y'.n y'.c)
        have LE : Hid (Below w.heap.size w x6) := ST.out.cl.below.trans (BE.out _ (Nat.le_succ _))
        have AE : Hid (∀ wj, Kp w.heap.size x6 wj → (((Words wj p' P.bare ∧ Grants wj x' xv' X.bare ∧ Grants wj y' yv' Y.bare) ∧ Roles wj r' rv' R.bare) ∧ Roles wj u' uv' U.bare) ∧ Grants wj g' gv' G.bare) := fun wj h => ALL.out wj (((Kq.refl (w.heap.size + 1 + 1 + 1 + 1) O wgx).kp (KE.out (w.heap.size + 1 + 1 + 1 + 1) (by omega))).kp ⟨h.size, fun b hb hl => h.block b (by omega) hl⟩)
        clear ST ALL KE BE
        go_wp2_with fail
        refine bodyPost_ret (v := .agg #[.slice p'.a p'.n p'.c, .slice r'.a r'.n r'.c, .slice u'.a u'.n u'.c, .slice g'.a g'.n g'.c, .slice x'.a x'.n x'.c, .slice y'.a y'.n y'.c]) (by simp [results, Try.results37, go_sem, t0, t1, t2, t3, t4, t5]) rfl ?_
        exact ⟨⟨p', P.bare, r', rv', R.bare, u', uv', U.bare, g', gv', G.bare, x', xv', X.bare, y', yv', Y.bare⟩, rfl, fun wj h => ⟨(AE.out wj h).1.1.1.1, (AE.out wj h).1.1.2, (AE.out wj h).1.2, (AE.out wj h).2, (AE.out wj h).1.1.1.2.1, (AE.out wj h).1.1.1.2.2⟩, ⟨LP.out, rfl, LR.out.1, LR.out.2, rfl, LU.out.1, LU.out.2, rfl, LG.out.1, LG.out.2, rfl, LX.out.1, LX.out.2, rfl, LY.out.1, LY.out.2, rfl⟩, LE.out⟩

end Go.Proofs.Qxb6614661aR
