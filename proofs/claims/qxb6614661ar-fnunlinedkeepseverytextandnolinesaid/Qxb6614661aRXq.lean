import Derived.Test.Qxb6614661aRXpb
namespace Go.Proofs.Qxb6614661aR
open Go.RowKit
attribute [local go_sem ↓] Go.wp_at_zero Go.wp_at_succ

set_option maxRecDepth 100000 in
set_option maxHeartbeats 16000000 in
theorem w13 (S : Sp) (w : World) (hS : S.lies w) (hsm : S.small) : Calls Try.prog 13 #[S.val] w (Post13 S w) := by
  have HS0 := hid hS
  have SM := hid hsm
  clear hS hsm
  obtain ⟨⟨pa, pn, pc⟩, P, ⟨ra, rn, rc⟩, rv, R, ⟨ua, un, uc⟩, uv, U, ⟨ga, gn, gc⟩, gv, G, ⟨xa, xn, xc⟩, xv, X, ⟨ya, yn, yc⟩, yv, Y⟩ := S
  unfold Sp.val
  dsimp only
  obtain ⟨wa, hwa⟩ : ∃ wa, w.alloc (Obj.cells #[.slice pa pn pc, .slice ra rn rc, .slice ua un uc, .slice ga gn gc, .slice xa xn xc, .slice ya yn yc] 28) = wa := ⟨_, rfl⟩
  obtain ⟨wb, hwb⟩ : ∃ wb, wa.alloc (Obj.cells #[.slice none 0 0, .slice none 0 0, .slice none 0 0, .slice none 0 0, .slice none 0 0, .slice none 0 0] 37) = wb := ⟨_, rfl⟩
  obtain ⟨w1, hw1⟩ : ∃ w1, wb.alloc (Obj.cells #[.slice none 0 0, .slice none 0 0, .slice none 0 0, .slice none 0 0, .slice none 0 0, .slice none 0 0] 37) = w1 := ⟨_, rfl⟩
  have sa : wa.heap.size = w.heap.size + 1 := by rw [← hwa]; simp
  have sb : wb.heap.size = w.heap.size + 1 + 1 := by rw [← hwb]; simp [sa]
  have s1 : Hid (w1.heap.size = w.heap.size + 1 + 1 + 1) := by show w1.heap.size = _; rw [← hw1]; simp [sb]
  have ST1 : St13 w #[.slice pa pn pc, .slice ra rn rc, .slice ua un uc, .slice ga gn gc, .slice xa xn xc, .slice ya yn yc] nil6 w1 := by
    have b0 : Below w.heap.size w w1 := by rw [← hw1, ← hwb, ← hwa]; exact (((Below.refl _ _).alloc (Nat.le_refl _) _).alloc (by simp) _).alloc (by simp; omega) _
    have ba : Below wa.heap.size wa wb := by rw [← hwb]; exact (Below.refl _ _).alloc (Nat.le_refl _) _
    have bb : Below wb.heap.size wb w1 := by rw [← hw1]; exact (Below.refl _ _).alloc (Nat.le_refl _) _
    refine ⟨b0, ?_, ?_, ?_⟩
    · have h : Blk wa w.heap.size 28 #[.slice pa pn pc, .slice ra rn rc, .slice ua un uc, .slice ga gn gc, .slice xa xn xc, .slice ya yn yc] := by rw [← hwa]; exact blk_new w 28 _
      exact (h.next ba).next bb
    · have h : Blk wb wa.heap.size 37 nil6 := by rw [← hwb]; exact blk_new wa 37 _
      rw [sa] at h
      exact h.next bb
    · have h : Blk w1 wb.heap.size 37 nil6 := by rw [← hw1]; exact blk_new wb 37 _
      rw [sb] at h
      exact h
  have ST := hid ST1
  clear ST1 s1
  have q0 : w1.cell? ⟨w.heap.size, 0, none⟩ = some (.slice pa pn pc) := ST.out.box.cell 0 _ rfl
  go_enter Try.func13, Try.ntmps13
  go_wp2_with fail
  refine (w38 ⟨pa, pn, pc⟩ P w1 (HS0.out.1.below ST.out.below (Nat.le_refl _)) SM.out.1).mono ?_
  rintro e w2 ⟨p', rfl, hl, hw, hb, hfr⟩
  replace ST := hid (ST.out.next hb)
  have PL := hid hl
  have PW := hid hw
  have PH : Hid (SHi (w.heap.size + 1 + 1 + 1) p') := fun b hbb => Nat.le_trans (by rw [← hw1]; simp; omega) (hfr b hbb)
  obtain ⟨ws, hws⟩ : ∃ wn, w2.setCell ⟨w.heap.size + 1 + 1, 0, none⟩ (.slice p'.a p'.n p'.c) = wn := ⟨_, rfl⟩
  have cj : w2.cell? ⟨w.heap.size + 1 + 1, 0, none⟩ = some (.slice none 0 0) := ST.out.out.cell 0 _ rfl
  have zj : w2.frozen? ⟨w.heap.size + 1 + 1, 0, none⟩ = false := ST.out.out.frozen 0
  have ST2 : Hid (St13 w #[.slice pa pn pc, .slice ra rn rc, .slice ua un uc, .slice ga gn gc, .slice xa xn xc, .slice ya yn yc] (nil6.setIfInBounds 0 (.slice p'.a p'.n p'.c)) ws) := hws ▸ ST.out.set 0 _
  have ALL : Hid (∀ wj, Kp (w.heap.size + 1 + 1 + 1) ws wj → Words wj p' P) := fun wj kp => PW.out.kp PH.out ((hws ▸ (Kp.refl (w.heap.size + 1 + 1 + 1) w2).set ⟨w.heap.size + 1 + 1, 0, none⟩ _ (Or.inl (by show w.heap.size + 1 + 1 < (w.heap.size + 1 + 1 + 1); omega)) : Kp (w.heap.size + 1 + 1 + 1) w2 ws).trans kp)
  clear hl hw hb hfr q0
  replace ST := ST2
  clear ST2 PW
  have q1 : ws.cell? ⟨w.heap.size, 1, none⟩ = some (.slice ra rn rc) := ST.out.box.cell 1 _ rfl
  cases ra with
  | none =>
    have hr0 : Hid (rn = 0) := by
      rcases HS0.out.2.1 with h | ⟨b, of, ha, _⟩
      · exact h
      · cases ha
    have ALLn : Hid (∀ wj, Kp (w.heap.size + 1 + 1 + 1) ws wj → (Words wj p' P) ∧ Roles wj ⟨none, 0, 0⟩ rv R) := fun wj kp => ⟨ALL.out wj kp, Or.inl rfl⟩
    replace ALL := ALLn
    clear ALLn
    have q2 : ws.cell? ⟨w.heap.size, 2, none⟩ = some (.slice ua un uc) := ST.out.box.cell 2 _ rfl
    cases ua with
    | none =>
      have hu0 : Hid (un = 0) := by
        rcases HS0.out.2.2.1 with h | ⟨b, of, ha, _⟩
        · exact h
        · cases ha
      have ALLn : Hid (∀ wj, Kp (w.heap.size + 1 + 1 + 1) ws wj → ((Words wj p' P) ∧ Roles wj ⟨none, 0, 0⟩ rv R) ∧ Roles wj ⟨none, 0, 0⟩ uv U) := fun wj kp => ⟨ALL.out wj kp, Or.inl rfl⟩
      replace ALL := ALLn
      clear ALLn
      have q3 : ws.cell? ⟨w.heap.size, 3, none⟩ = some (.slice ga gn gc) := ST.out.box.cell 3 _ rfl
      cases ga with
      | none =>
        have hg0 : Hid (gn = 0) := by
          rcases HS0.out.2.2.2.1 with h | ⟨b, of, ha, _⟩
          · exact h
          · cases ha
        have ALLn : Hid (∀ wj, Kp (w.heap.size + 1 + 1 + 1) ws wj → (((Words wj p' P) ∧ Roles wj ⟨none, 0, 0⟩ rv R) ∧ Roles wj ⟨none, 0, 0⟩ uv U) ∧ Grants wj ⟨none, 0, 0⟩ gv G) := fun wj kp => ⟨ALL.out wj kp, Or.inl rfl⟩
        replace ALL := ALLn
        clear ALLn
        have q4 : ws.cell? ⟨w.heap.size, 4, none⟩ = some (.slice xa xn xc) := ST.out.box.cell 4 _ rfl
        go_wp2_with fail
        refine (w40 ⟨xa, xn, xc⟩ xv X ws (HS0.out.2.2.2.2.1.below ST.out.below (Nat.le_refl _)) SM.out.2.2.2.2.1).mono ?_
        rintro e w7 ⟨x', xv', rfl, g1, g2, g3, hb, hf1, hf2⟩
        have xG := hid g1
        have XN := hid g2
        have XV := hid g3
        have XB := hid hb
        have XH : Hid (RHi (w.heap.size + 1 + 1 + 1) x' xv') := ⟨fun b hb => Nat.le_trans ST.out.size (hf1 b hb), fun i hi b hb => Nat.le_trans ST.out.size (hf2 i (by rw [← g2]; exact hi) b hb)⟩
        replace ST := hid (ST.out.next hb)
        clear g1 g2 g3 hf1 hf2 hb
        obtain ⟨w8, hw8⟩ : ∃ wn, w7.setCell ⟨w.heap.size + 1 + 1, 4, none⟩ (.slice x'.a x'.n x'.c) = wn := ⟨_, rfl⟩
        have c4 : w7.cell? ⟨w.heap.size + 1 + 1, 4, none⟩ = some (.slice none 0 0) := ST.out.out.cell 4 _ rfl
        have z4 : w7.frozen? ⟨w.heap.size + 1 + 1, 4, none⟩ = false := ST.out.out.frozen 4
        have ST2 : Hid (St13 w #[.slice pa pn pc, .slice none rn rc, .slice none un uc, .slice none gn gc, .slice xa xn xc, .slice ya yn yc] ((nil6.setIfInBounds 0 (.slice p'.a p'.n p'.c)).setIfInBounds 4 (.slice x'.a x'.n x'.c)) w8) := hw8 ▸ ST.out.set 4 _
        have kp2 : Kp (w.heap.size + 1 + 1 + 1) w7 w8 := hw8 ▸ (Kp.refl (w.heap.size + 1 + 1 + 1) w7).set ⟨w.heap.size + 1 + 1, 4, none⟩ _ (Or.inl (by show w.heap.size + 1 + 1 < (w.heap.size + 1 + 1 + 1); omega))
        have ALL2 : Hid (∀ wj, Kp (w.heap.size + 1 + 1 + 1) w8 wj → ((((Words wj p' P) ∧ Roles wj ⟨none, 0, 0⟩ rv R) ∧ Roles wj ⟨none, 0, 0⟩ uv U) ∧ Grants wj ⟨none, 0, 0⟩ gv G) ∧ Grants wj x' xv' X) := fun wj h => ⟨ALL.out wj (((Kp.refl (w.heap.size + 1 + 1 + 1) ws).below XB.out (Nat.le_refl _)).trans (kp2.trans h)), xG.out.kp XH.out (kp2.trans h)⟩
        clear q4 xG XB XH kp2 ST ALL
        have ST := ST2
        have ALL := ALL2
        clear ST2 ALL2
        have q5 : w8.cell? ⟨w.heap.size, 5, none⟩ = some (.slice ya yn yc) := ST.out.box.cell 5 _ rfl
        go_wp2_with fail
        refine (w40 ⟨ya, yn, yc⟩ yv Y w8 (HS0.out.2.2.2.2.2.below ST.out.below (Nat.le_refl _)) SM.out.2.2.2.2.2).mono ?_
        rintro e w9 ⟨y', yv', rfl, g1, g2, g3, hb, hf1, hf2⟩
        have yG := hid g1
        have YN := hid g2
        have YV := hid g3
        have YB := hid hb
        have YH : Hid (RHi (w.heap.size + 1 + 1 + 1) y' yv') := ⟨fun b hb => Nat.le_trans ST.out.size (hf1 b hb), fun i hi b hb => Nat.le_trans ST.out.size (hf2 i (by rw [← g2]; exact hi) b hb)⟩
        replace ST := hid (ST.out.next hb)
        clear g1 g2 g3 hf1 hf2 hb
        obtain ⟨w10, hw10⟩ : ∃ wn, w9.setCell ⟨w.heap.size + 1 + 1, 5, none⟩ (.slice y'.a y'.n y'.c) = wn := ⟨_, rfl⟩
        have c5 : w9.cell? ⟨w.heap.size + 1 + 1, 5, none⟩ = some (.slice none 0 0) := ST.out.out.cell 5 _ rfl
        have z5 : w9.frozen? ⟨w.heap.size + 1 + 1, 5, none⟩ = false := ST.out.out.frozen 5
        have ST2 : Hid (St13 w #[.slice pa pn pc, .slice none rn rc, .slice none un uc, .slice none gn gc, .slice xa xn xc, .slice ya yn yc] (((nil6.setIfInBounds 0 (.slice p'.a p'.n p'.c)).setIfInBounds 4 (.slice x'.a x'.n x'.c)).setIfInBounds 5 (.slice y'.a y'.n y'.c)) w10) := hw10 ▸ ST.out.set 5 _
        have kp2 : Kp (w.heap.size + 1 + 1 + 1) w9 w10 := hw10 ▸ (Kp.refl (w.heap.size + 1 + 1 + 1) w9).set ⟨w.heap.size + 1 + 1, 5, none⟩ _ (Or.inl (by show w.heap.size + 1 + 1 < (w.heap.size + 1 + 1 + 1); omega))
        have ALL2 : Hid (∀ wj, Kp (w.heap.size + 1 + 1 + 1) w10 wj → (((((Words wj p' P) ∧ Roles wj ⟨none, 0, 0⟩ rv R) ∧ Roles wj ⟨none, 0, 0⟩ uv U) ∧ Grants wj ⟨none, 0, 0⟩ gv G) ∧ Grants wj x' xv' X) ∧ Grants wj y' yv' Y) := fun wj h => ⟨ALL.out wj (((Kp.refl (w.heap.size + 1 + 1 + 1) w8).below YB.out (Nat.le_refl _)).trans (kp2.trans h)), yG.out.kp YH.out (kp2.trans h)⟩
        clear q5 yG YB YH kp2 ST ALL
        have ST := ST2
        have ALL := ALL2
        clear ST2 ALL2
        have r0 : w10.cell? ⟨w.heap.size + 1 + 1, 0, none⟩ = some (.slice p'.a p'.n p'.c) := ST.out.out.cell 0 _ rfl
        have r1 : w10.cell? ⟨w.heap.size + 1 + 1, 1, none⟩ = some (.slice none 0 0) := ST.out.out.cell 1 _ rfl
        have r2 : w10.cell? ⟨w.heap.size + 1 + 1, 2, none⟩ = some (.slice none 0 0) := ST.out.out.cell 2 _ rfl
        have r3 : w10.cell? ⟨w.heap.size + 1 + 1, 3, none⟩ = some (.slice none 0 0) := ST.out.out.cell 3 _ rfl
        have r4 : w10.cell? ⟨w.heap.size + 1 + 1, 4, none⟩ = some (.slice x'.a x'.n x'.c) := ST.out.out.cell 4 _ rfl
        have r5 : w10.cell? ⟨w.heap.size + 1 + 1, 5, none⟩ = some (.slice y'.a y'.n y'.c) := ST.out.out.cell 5 _ rfl
        obtain ⟨x1, x2, x3, x4, x5, x6, e1, e2, e3, e4, e5, e6, k0, y0, k1, y1, k2, y2, k3, y3, k4, y4, k5, y5, t0, t1, t2, t3, t4, t5, KE, BE⟩ := storeRes ST.out.res (.slice p'.a p'.n p'.c) (.slice none 0 0) (.slice none 0 0) (.slice none 0 0) (.slice x'.a x'.n x'.c) (.slice y'.a y'.n y'.c)
        have LE : Hid (Below w.heap.size w x6) := ST.out.below.trans (BE.out _ (Nat.le_succ _))
        have AE := hid (ALL.out x6 (KE.out (w.heap.size + 1 + 1 + 1) (by omega)))
        clear ST ALL KE BE
        go_wp2_with fail
        refine bodyPost_ret (v := .agg #[.slice p'.a p'.n p'.c, .slice none 0 0, .slice none 0 0, .slice none 0 0, .slice x'.a x'.n x'.c, .slice y'.a y'.n y'.c]) (by simp [results, Try.results13, go_sem, t0, t1, t2, t3, t4, t5]) rfl ?_
        obtain ⟨⟨⟨⟨⟨a1, a2⟩, a3⟩, a4⟩, a5⟩, a6⟩ := AE.out
        exact ⟨⟨p', P, ⟨none, 0, 0⟩, rv, R, ⟨none, 0, 0⟩, uv, U, ⟨none, 0, 0⟩, gv, G, x', xv', X, y', yv', Y⟩, rfl, ⟨a1, a2, a3, a4, a5, a6⟩, ⟨PL.out, rfl, hr0.out.symm, fun i hi => rfl, rfl, hu0.out.symm, fun i hi => rfl, rfl, hg0.out.symm, fun i hi => rfl, rfl, XN.out, XV.out, rfl, YN.out, YV.out, rfl⟩, LE.out⟩
      | some xg =>
        have hmk := fun w => make34 gn SM.out.2.2.2.1.1 w
        have hn : gn ≤ 1048576 := SM.out.2.2.2.1.1
        go_wp2
        go_loopw [9] (fun i wr => ∃ k : Nat, k ≤ gn ∧ i = .int .i64 k ∧ Hid (St13 w #[.slice pa pn pc, .slice none rn rc, .slice none un uc, .slice (some xg) gn gc, .slice xa xn xc, .slice ya yn yc] (nil6.setIfInBounds 0 (.slice p'.a p'.n p'.c)) wr) ∧ Hid (Ow wr ws.heap.size 86 (gn * 6)) ∧ Hid (FstX 6 (GG G) wr ws.heap.size k gv G.c) ∧ Hid (Kp (w.heap.size + 1 + 1 + 1) ws wr)) (fun i _ => gn - (intOf i).toNat)
        case atStart => exact ⟨0, Nat.zero_le _, rfl, ST.out.next ((Below.refl _ _).alloc (Nat.le_refl _) _), ow_made ws _ _ _, fstX_nil _ _ _ _ _ _, (Kp.refl _ _).below ((Below.refl _ _).alloc (Nat.le_refl _) _) (Nat.le_refl _)⟩
        case round =>
          clear hmk q3
          obtain ⟨k, hk, rfl, SZ, OW, FI, KP⟩ := hrel
          have q3 : wr.cell? ⟨w.heap.size, 3, none⟩ = some (.slice (some xg) gn gc) := SZ.out.box.cell 3 _ rfl
          by_cases hlt : k < gn
          · skip
            rcases HS0.out.2.2.2.1.below SZ.out.below (Nat.le_refl _) with h | ⟨b, of, ha, hc⟩
            · exact absurd h (by dsimp only; omega)
            obtain rfl : xg = ⟨b, of, none⟩ := by simpa using ha
            have VM := hid (SM.out.2.2.2.1.2 k hlt)
            have hgw : (w.heap.size + 1 + 1 + 1) ≤ ws.heap.size := ST.out.size
            obtain ⟨f0, f1, f2, f3, f4, f5, fw⟩ := hc k hlt
            have hbw : b < w.heap.size := by
              rcases HS0.out.2.2.2.1 with h | ⟨b2, o2, ha2, hc2⟩
              · exact absurd h (by dsimp only; omega)
              · have h2 := World.block_lt_of_cell? w _ (hc2 k hlt).1
                have h3 : b = b2 := by simpa using congrArg (Option.map Addr.block) ha2
                rw [h3]; exact h2
            have NB : Hid (b ≠ ws.heap.size) := by show b ≠ _; omega
            have NH : Hid (w.heap.size ≠ ws.heap.size) := by show w.heap.size ≠ _; omega
            have i0 : (0 : Int) ≤ (k : Int) := by omega
            have i1 : (k : Int) < (gn : Int) := by omega
            obtain ⟨w2x, hw2x⟩ : ∃ wn, wr.alloc (Obj.cells #[.int .i64 (G.l0 k), .string (G.t1 k), .int .i64 (G.l1 k), .slice (gv k).a (gv k).n (gv k).c, .string (G.t2 k), .int .i64 (G.l2 k)] 72) = wn := ⟨_, rfl⟩
            have bx : Below wr.heap.size wr w2x := by rw [← hw2x]; exact (Below.refl _ _).alloc (Nat.le_refl _) _
            have hq : Blk w2x wr.heap.size 72 #[.int .i64 (G.l0 k), .string (G.t1 k), .int .i64 (G.l1 k), .slice (gv k).a (gv k).n (gv k).c, .string (G.t2 k), .int .i64 (G.l2 k)] := by rw [← hw2x]; exact blk_new wr 72 _
            have d0 : w2x.cell? ⟨wr.heap.size, 0, none⟩ = some (.int .i64 (G.l0 k)) := hq.cell 0 _ rfl
            have d1 : w2x.cell? ⟨wr.heap.size, 1, none⟩ = some (.string (G.t1 k)) := hq.cell 1 _ rfl
            have d2 : w2x.cell? ⟨wr.heap.size, 2, none⟩ = some (.int .i64 (G.l1 k)) := hq.cell 2 _ rfl
            have d3 : w2x.cell? ⟨wr.heap.size, 3, none⟩ = some (.slice (gv k).a (gv k).n (gv k).c) := hq.cell 3 _ rfl
            have d4 : w2x.cell? ⟨wr.heap.size, 4, none⟩ = some (.string (G.t2 k)) := hq.cell 4 _ rfl
            have d5 : w2x.cell? ⟨wr.heap.size, 5, none⟩ = some (.int .i64 (G.l2 k)) := hq.cell 5 _ rfl
            have FW := hid (Words.next bx fw)
            have HW2 := hid hw2x
            have BX := hid bx
            have OW2 := hid (OW.out.below bx OW.out.lt)
            have NG : Hid (wr.heap.size ≠ ws.heap.size) := Nat.ne_of_gt OW.out.lt
            clear hc fw ha hw2x bx hq
            go_wp2_with fail
            rw [HW2.out]
            go_region_held3 (fun w' => w'.cell? ⟨wr.heap.size, 0, none⟩ = some (.int .i64 (G.l0 k)) ∧ w'.cell? ⟨wr.heap.size, 1, none⟩ = some (.string (G.t1 k)) ∧ w'.cell? ⟨wr.heap.size, 2, none⟩ = some (.int .i64 (G.l1 k)) ∧ w'.cell? ⟨wr.heap.size, 3, none⟩ = some (.slice (gv k).a (gv k).n (gv k).c) ∧ w'.cell? ⟨wr.heap.size, 4, none⟩ = some (.string (G.t2 k)) ∧ w'.cell? ⟨wr.heap.size, 5, none⟩ = some (.int .i64 (G.l2 k)))
              (first
                | with_reducible exact ⟨cellDrew d0, cellDrew d1, cellDrew d2, cellDrew d3, cellDrew d4, cellDrew d5⟩
                | (go_split_ands
                   refine ⟨?_, ?_, ?_, ?_, ?_, ?_⟩
                   · first | with_reducible exact cellKeep hb5 (by assumption) | with_reducible exact cellKeep hb4 (by assumption) | with_reducible exact cellKeep hb3 (by assumption) | with_reducible exact Wrote.cellFar wr6.out (by assumption) NG.out
                   · first | with_reducible exact cellKeep hb5 (by assumption) | with_reducible exact cellKeep hb4 (by assumption) | with_reducible exact cellKeep hb3 (by assumption) | with_reducible exact Wrote.cellFar wr6.out (by assumption) NG.out
                   · first | with_reducible exact cellKeep hb5 (by assumption) | with_reducible exact cellKeep hb4 (by assumption) | with_reducible exact cellKeep hb3 (by assumption) | with_reducible exact Wrote.cellFar wr6.out (by assumption) NG.out
                   · first | with_reducible exact cellKeep hb5 (by assumption) | with_reducible exact cellKeep hb4 (by assumption) | with_reducible exact cellKeep hb3 (by assumption) | with_reducible exact Wrote.cellFar wr6.out (by assumption) NG.out
                   · first | with_reducible exact cellKeep hb5 (by assumption) | with_reducible exact cellKeep hb4 (by assumption) | with_reducible exact cellKeep hb3 (by assumption) | with_reducible exact Wrote.cellFar wr6.out (by assumption) NG.out
                   · first | with_reducible exact cellKeep hb5 (by assumption) | with_reducible exact cellKeep hb4 (by assumption) | with_reducible exact cellKeep hb3 (by assumption) | with_reducible exact Wrote.cellFar wr6.out (by assumption) NG.out)
                | fail)
              (first
                | (go_at_call_of 39 (G.t1 k); refine (w39 _ _ _).mono ?_; rintro e w3 ⟨rfl, hb3⟩)
                | (go_at_call_of 39 (G.t2 k); refine (w39 _ _ _).mono ?_; rintro e w5 ⟨rfl, hb5⟩
                   have ow5 := ((Ow.below (w := w2x.drew) OW2.out hb3 OW2.out.lt).below hb4 (Nat.lt_of_lt_of_le OW2.out.lt hb3.size)).below hb5 (Nat.lt_of_lt_of_le OW2.out.lt (Nat.le_trans hb3.size hb4.size))
                   obtain ⟨x1, x2, x3, x4, x5, w6, y0, y1, y2, y3, y4, y5, e1, e2, e3, e4, e5, e6, c0, z0, c1, z1, c2, z2, c3, z3, c4, z4, c5, z5, wr6, ow6, b6⟩ := store6 (o := k * 6) (.int .i64 (G.l0 k)) (.string (G.t1 k)) (.int .i64 (G.l1 k)) (.slice s'.a s'.n s'.c) (.string (G.t2 k)) (.int .i64 (G.l2 k)) ow5 (by omega)
                   replace ow5 := hid ow5)
                | (go_at_call 38; refine (w38 (gv k) (G.c k) _ (Words.next hb3 FW.out) VM.out).mono ?_; rintro e w4 ⟨s', rfl, hl4, hw4, hb4, hfr4⟩; replace hl4 := hid hl4; replace hw4 := hid hw4; replace hfr4 := hid hfr4))
            have h2 := BX.out.size
            have h3 : w2x.heap.size ≤ w3.heap.size := hb3.size
            have h4 := hb4.size
            have hgl := OW.out.lt
            have b25 : Below w2x.heap.size w2x w5 := ((Below.refl w2x.heap.size w2x).drew.trans hb3).trans ((hb4.trans (hb5.mono h4)).mono h3)
            have b35 : Below wr.heap.size wr w5 := BX.out.trans (b25.mono h2)
            have FI6 : Hid (FstX 6 (GG G) w6 ws.heap.size (k + 1) gv G.c) := fstX_snoc (fun _ _ => rfl) (FI.out.below b35 (Nat.le_refl _)) wr6.out hl4.out (hw4.out.below hb5 (Nat.le_refl _)) (fun b hb => by have := hfr4.out b hb; omega)
            have SZ6 : Hid (St13 w #[.slice pa pn pc, .slice none rn rc, .slice none un uc, .slice (some ⟨b, of, none⟩) gn gc, .slice xa xn xc, .slice ya yn yc] (nil6.setIfInBounds 0 (.slice p'.a p'.n p'.c)) w6) := (SZ.out.next b35).wrote wr6.out b6.out (by omega)
            have KP6 : Hid (Kp (w.heap.size + 1 + 1 + 1) ws w6) := (KP.out.below b35 (Nat.le_refl _)).wrote wr6.out (b6.out 0 (Nat.zero_le _)).size (Nat.le_refl _)
            clear hb3 hb4 hb5 b35 b25 h2 h3 h4 hgl e1 e2 e3 e4 e5 e6 c0 z0 c1 z1 c2 z2 c3 z3 c4 z4 c5 z5 wr6 b6 hl4 hw4 hfr4 ow5 OW OW2 FI SZ KP
            go_wp2
            go_roundw
            case rel => exact ⟨k + 1, by omega, by go_num, SZ6, ow6, FI6, KP6⟩
            case measure => simp [intOf]; omega
          obtain rfl : gn = k := by omega
          obtain ⟨gv', e1, e2, e3⟩ := fstX_grants (c := gn) FI.out
          have E1 := hid e1
          have Vg := hid e2
          have hgw : (w.heap.size + 1 + 1 + 1) ≤ ws.heap.size := ST.out.size
          have RH : Hid (RHi (w.heap.size + 1 + 1 + 1) ⟨some ⟨ws.heap.size, 0, none⟩, gn, gn⟩ gv') := ⟨fun b hb => by cases hb; exact hgw, fun i hi b hb => by have := e3 i hi b hb; omega⟩
          obtain ⟨wtg, hwtg⟩ : ∃ wn, wr.setCell ⟨w.heap.size + 1 + 1, 3, none⟩ (.slice (some ⟨ws.heap.size, 0, none⟩) gn gn) = wn := ⟨_, rfl⟩
          have cj : wr.cell? ⟨w.heap.size + 1 + 1, 3, none⟩ = some (.slice none 0 0) := SZ.out.out.cell 3 _ rfl
          have zj : wr.frozen? ⟨w.heap.size + 1 + 1, 3, none⟩ = false := SZ.out.out.frozen 3
          have ST2 : Hid (St13 w #[.slice pa pn pc, .slice none rn rc, .slice none un uc, .slice (some xg) gn gc, .slice xa xn xc, .slice ya yn yc] ((nil6.setIfInBounds 0 (.slice p'.a p'.n p'.c)).setIfInBounds 3 (.slice (some ⟨ws.heap.size, 0, none⟩) gn gn)) wtg) := hwtg ▸ SZ.out.set 3 _
          have kp2 : Kp (w.heap.size + 1 + 1 + 1) wr wtg := hwtg ▸ (Kp.refl (w.heap.size + 1 + 1 + 1) wr).set ⟨w.heap.size + 1 + 1, 3, none⟩ _ (Or.inl (by show w.heap.size + 1 + 1 < (w.heap.size + 1 + 1 + 1); omega))
          have ALL2 : Hid (∀ wj, Kp (w.heap.size + 1 + 1 + 1) wtg wj → (((Words wj p' P) ∧ Roles wj ⟨none, 0, 0⟩ rv R) ∧ Roles wj ⟨none, 0, 0⟩ uv U) ∧ Grants wj ⟨some ⟨ws.heap.size, 0, none⟩, gn, gn⟩ gv' G) := fun wj h => ⟨ALL.out wj ((KP.out.trans kp2).trans h), E1.out.kp RH.out (kp2.trans h)⟩
          clear e1 e2 e3 E1 RH kp2 SZ OW FI KP ST ALL hgw hlt hk
          have ST := ST2
          have ALL := ALL2
          clear ST2 ALL2
          have q4 : wtg.cell? ⟨w.heap.size, 4, none⟩ = some (.slice xa xn xc) := ST.out.box.cell 4 _ rfl
          go_wp2_with fail
          refine (w40 ⟨xa, xn, xc⟩ xv X wtg (HS0.out.2.2.2.2.1.below ST.out.below (Nat.le_refl _)) SM.out.2.2.2.2.1).mono ?_
          rintro e w7 ⟨x', xv', rfl, g1, g2, g3, hb, hf1, hf2⟩
          have xG := hid g1
          have XN := hid g2
          have XV := hid g3
          have XB := hid hb
          have XH : Hid (RHi (w.heap.size + 1 + 1 + 1) x' xv') := ⟨fun b hb => Nat.le_trans ST.out.size (hf1 b hb), fun i hi b hb => Nat.le_trans ST.out.size (hf2 i (by rw [← g2]; exact hi) b hb)⟩
          replace ST := hid (ST.out.next hb)
          clear g1 g2 g3 hf1 hf2 hb
          obtain ⟨w8, hw8⟩ : ∃ wn, w7.setCell ⟨w.heap.size + 1 + 1, 4, none⟩ (.slice x'.a x'.n x'.c) = wn := ⟨_, rfl⟩
          have c4 : w7.cell? ⟨w.heap.size + 1 + 1, 4, none⟩ = some (.slice none 0 0) := ST.out.out.cell 4 _ rfl
          have z4 : w7.frozen? ⟨w.heap.size + 1 + 1, 4, none⟩ = false := ST.out.out.frozen 4
          have ST2 : Hid (St13 w #[.slice pa pn pc, .slice none rn rc, .slice none un uc, .slice (some xg) gn gc, .slice xa xn xc, .slice ya yn yc] (((nil6.setIfInBounds 0 (.slice p'.a p'.n p'.c)).setIfInBounds 3 (.slice (some ⟨ws.heap.size, 0, none⟩) gn gn)).setIfInBounds 4 (.slice x'.a x'.n x'.c)) w8) := hw8 ▸ ST.out.set 4 _
          have kp2 : Kp (w.heap.size + 1 + 1 + 1) w7 w8 := hw8 ▸ (Kp.refl (w.heap.size + 1 + 1 + 1) w7).set ⟨w.heap.size + 1 + 1, 4, none⟩ _ (Or.inl (by show w.heap.size + 1 + 1 < (w.heap.size + 1 + 1 + 1); omega))
          have ALL2 : Hid (∀ wj, Kp (w.heap.size + 1 + 1 + 1) w8 wj → ((((Words wj p' P) ∧ Roles wj ⟨none, 0, 0⟩ rv R) ∧ Roles wj ⟨none, 0, 0⟩ uv U) ∧ Grants wj ⟨some ⟨ws.heap.size, 0, none⟩, gn, gn⟩ gv' G) ∧ Grants wj x' xv' X) := fun wj h => ⟨ALL.out wj (((Kp.refl (w.heap.size + 1 + 1 + 1) wtg).below XB.out (Nat.le_refl _)).trans (kp2.trans h)), xG.out.kp XH.out (kp2.trans h)⟩
          clear q4 xG XB XH kp2 ST ALL
          have ST := ST2
          have ALL := ALL2
          clear ST2 ALL2
          have q5 : w8.cell? ⟨w.heap.size, 5, none⟩ = some (.slice ya yn yc) := ST.out.box.cell 5 _ rfl
          go_wp2_with fail
          refine (w40 ⟨ya, yn, yc⟩ yv Y w8 (HS0.out.2.2.2.2.2.below ST.out.below (Nat.le_refl _)) SM.out.2.2.2.2.2).mono ?_
          rintro e w9 ⟨y', yv', rfl, g1, g2, g3, hb, hf1, hf2⟩
          have yG := hid g1
          have YN := hid g2
          have YV := hid g3
          have YB := hid hb
          have YH : Hid (RHi (w.heap.size + 1 + 1 + 1) y' yv') := ⟨fun b hb => Nat.le_trans ST.out.size (hf1 b hb), fun i hi b hb => Nat.le_trans ST.out.size (hf2 i (by rw [← g2]; exact hi) b hb)⟩
          replace ST := hid (ST.out.next hb)
          clear g1 g2 g3 hf1 hf2 hb
          obtain ⟨w10, hw10⟩ : ∃ wn, w9.setCell ⟨w.heap.size + 1 + 1, 5, none⟩ (.slice y'.a y'.n y'.c) = wn := ⟨_, rfl⟩
          have c5 : w9.cell? ⟨w.heap.size + 1 + 1, 5, none⟩ = some (.slice none 0 0) := ST.out.out.cell 5 _ rfl
          have z5 : w9.frozen? ⟨w.heap.size + 1 + 1, 5, none⟩ = false := ST.out.out.frozen 5
          have ST2 : Hid (St13 w #[.slice pa pn pc, .slice none rn rc, .slice none un uc, .slice (some xg) gn gc, .slice xa xn xc, .slice ya yn yc] ((((nil6.setIfInBounds 0 (.slice p'.a p'.n p'.c)).setIfInBounds 3 (.slice (some ⟨ws.heap.size, 0, none⟩) gn gn)).setIfInBounds 4 (.slice x'.a x'.n x'.c)).setIfInBounds 5 (.slice y'.a y'.n y'.c)) w10) := hw10 ▸ ST.out.set 5 _
          have kp2 : Kp (w.heap.size + 1 + 1 + 1) w9 w10 := hw10 ▸ (Kp.refl (w.heap.size + 1 + 1 + 1) w9).set ⟨w.heap.size + 1 + 1, 5, none⟩ _ (Or.inl (by show w.heap.size + 1 + 1 < (w.heap.size + 1 + 1 + 1); omega))
          have ALL2 : Hid (∀ wj, Kp (w.heap.size + 1 + 1 + 1) w10 wj → (((((Words wj p' P) ∧ Roles wj ⟨none, 0, 0⟩ rv R) ∧ Roles wj ⟨none, 0, 0⟩ uv U) ∧ Grants wj ⟨some ⟨ws.heap.size, 0, none⟩, gn, gn⟩ gv' G) ∧ Grants wj x' xv' X) ∧ Grants wj y' yv' Y) := fun wj h => ⟨ALL.out wj (((Kp.refl (w.heap.size + 1 + 1 + 1) w8).below YB.out (Nat.le_refl _)).trans (kp2.trans h)), yG.out.kp YH.out (kp2.trans h)⟩
          clear q5 yG YB YH kp2 ST ALL
          have ST := ST2
          have ALL := ALL2
          clear ST2 ALL2
          have r0 : w10.cell? ⟨w.heap.size + 1 + 1, 0, none⟩ = some (.slice p'.a p'.n p'.c) := ST.out.out.cell 0 _ rfl
          have r1 : w10.cell? ⟨w.heap.size + 1 + 1, 1, none⟩ = some (.slice none 0 0) := ST.out.out.cell 1 _ rfl
          have r2 : w10.cell? ⟨w.heap.size + 1 + 1, 2, none⟩ = some (.slice none 0 0) := ST.out.out.cell 2 _ rfl
          have r3 : w10.cell? ⟨w.heap.size + 1 + 1, 3, none⟩ = some (.slice (some ⟨ws.heap.size, 0, none⟩) gn gn) := ST.out.out.cell 3 _ rfl
          have r4 : w10.cell? ⟨w.heap.size + 1 + 1, 4, none⟩ = some (.slice x'.a x'.n x'.c) := ST.out.out.cell 4 _ rfl
          have r5 : w10.cell? ⟨w.heap.size + 1 + 1, 5, none⟩ = some (.slice y'.a y'.n y'.c) := ST.out.out.cell 5 _ rfl
          obtain ⟨x1, x2, x3, x4, x5, x6, e1, e2, e3, e4, e5, e6, k0, y0, k1, y1, k2, y2, k3, y3, k4, y4, k5, y5, t0, t1, t2, t3, t4, t5, KE, BE⟩ := storeRes ST.out.res (.slice p'.a p'.n p'.c) (.slice none 0 0) (.slice none 0 0) (.slice (some ⟨ws.heap.size, 0, none⟩) gn gn) (.slice x'.a x'.n x'.c) (.slice y'.a y'.n y'.c)
          have LE : Hid (Below w.heap.size w x6) := ST.out.below.trans (BE.out _ (Nat.le_succ _))
          have AE := hid (ALL.out x6 (KE.out (w.heap.size + 1 + 1 + 1) (by omega)))
          clear ST ALL KE BE
          go_wp2_with fail
          refine bodyPost_ret (v := .agg #[.slice p'.a p'.n p'.c, .slice none 0 0, .slice none 0 0, .slice (some ⟨ws.heap.size, 0, none⟩) gn gn, .slice x'.a x'.n x'.c, .slice y'.a y'.n y'.c]) (by simp [results, Try.results13, go_sem, t0, t1, t2, t3, t4, t5]) rfl ?_
          obtain ⟨⟨⟨⟨⟨a1, a2⟩, a3⟩, a4⟩, a5⟩, a6⟩ := AE.out
          exact ⟨⟨p', P, ⟨none, 0, 0⟩, rv, R, ⟨none, 0, 0⟩, uv, U, ⟨some ⟨ws.heap.size, 0, none⟩, gn, gn⟩, gv', G, x', xv', X, y', yv', Y⟩, rfl, ⟨a1, a2, a3, a4, a5, a6⟩, ⟨PL.out, rfl, hr0.out.symm, fun i hi => rfl, rfl, hu0.out.symm, fun i hi => rfl, rfl, rfl, Vg.out, rfl, XN.out, XV.out, rfl, YN.out, YV.out, rfl⟩, LE.out⟩
    | some xu =>
      have hmk := fun w => make33 un SM.out.2.2.1.1 w
      have hn : un ≤ 1048576 := SM.out.2.2.1.1
      go_wp2
      go_loopw [7] (fun i wr => ∃ k : Nat, k ≤ un ∧ i = .int .i64 k ∧ Hid (St13 w #[.slice pa pn pc, .slice none rn rc, .slice (some xu) un uc, .slice ga gn gc, .slice xa xn xc, .slice ya yn yc] (nil6.setIfInBounds 0 (.slice p'.a p'.n p'.c)) wr) ∧ Hid (Ow wr ws.heap.size 84 (un * 3)) ∧ Hid (FstX 3 (GR U) wr ws.heap.size k uv U.c) ∧ Hid (Kp (w.heap.size + 1 + 1 + 1) ws wr)) (fun i _ => un - (intOf i).toNat)
      case atStart => exact ⟨0, Nat.zero_le _, rfl, ST.out.next ((Below.refl _ _).alloc (Nat.le_refl _) _), ow_made ws _ _ _, fstX_nil _ _ _ _ _ _, (Kp.refl _ _).below ((Below.refl _ _).alloc (Nat.le_refl _) _) (Nat.le_refl _)⟩
      case round =>
        clear hmk q2
        obtain ⟨k, hk, rfl, SZ, OW, FI, KP⟩ := hrel
        have q2 : wr.cell? ⟨w.heap.size, 2, none⟩ = some (.slice (some xu) un uc) := SZ.out.box.cell 2 _ rfl
        by_cases hlt : k < un
        · skip
          rcases HS0.out.2.2.1.below SZ.out.below (Nat.le_refl _) with h | ⟨b, of, ha, hc⟩
          · exact absurd h (by dsimp only; omega)
          obtain rfl : xu = ⟨b, of, none⟩ := by simpa using ha
          have VM := hid (SM.out.2.2.1.2 k hlt)
          have hgw : (w.heap.size + 1 + 1 + 1) ≤ ws.heap.size := ST.out.size
          obtain ⟨f0, f1, f2, fw⟩ := hc k hlt
          have hbw : b < w.heap.size := by
            rcases HS0.out.2.2.1 with h | ⟨b2, o2, ha2, hc2⟩
            · exact absurd h (by dsimp only; omega)
            · have h2 := World.block_lt_of_cell? w _ (hc2 k hlt).1
              have h3 : b = b2 := by simpa using congrArg (Option.map Addr.block) ha2
              rw [h3]; exact h2
          have NB : Hid (b ≠ ws.heap.size) := by show b ≠ _; omega
          have NH : Hid (w.heap.size ≠ ws.heap.size) := by show w.heap.size ≠ _; omega
          have i0 : (0 : Int) ≤ (k : Int) := by omega
          have i1 : (k : Int) < (un : Int) := by omega
          have FW := hid fw
          clear hc fw ha
          go_wp2_with fail
          go_region_held3 (fun w' => w'.cell? ⟨w.heap.size, 2, none⟩ = some (.slice (some ⟨b, of, none⟩) un uc) ∧ w'.cell? ⟨b, of + k * 3, none⟩ = some (.string (U.t k)) ∧ w'.cell? ⟨b, of + k * 3 + 1, none⟩ = some (.int .i64 (U.l k)) ∧ w'.cell? ⟨b, of + k * 3 + 2, none⟩ = some (.slice (uv k).a (uv k).n (uv k).c))
            (first
              | with_reducible exact ⟨cellDrew q2, cellDrew f0, cellDrew f1, cellDrew f2⟩
              | (go_split_ands
                 refine ⟨?_, ?_, ?_, ?_⟩
                 · first | with_reducible exact cellKeep hb4 (by assumption) | with_reducible exact cellKeep hb3 (by assumption) | with_reducible exact Wrote.cellFar wr6.out (by assumption) NH.out
                 · first | with_reducible exact cellKeep hb4 (by assumption) | with_reducible exact cellKeep hb3 (by assumption) | with_reducible exact Wrote.cellFar wr6.out (by assumption) NB.out
                 · first | with_reducible exact cellKeep hb4 (by assumption) | with_reducible exact cellKeep hb3 (by assumption) | with_reducible exact Wrote.cellFar wr6.out (by assumption) NB.out
                 · first | with_reducible exact cellKeep hb4 (by assumption) | with_reducible exact cellKeep hb3 (by assumption) | with_reducible exact Wrote.cellFar wr6.out (by assumption) NB.out)
              | fail)
            (first
              | (go_at_call 39; refine (w39 _ _ _).mono ?_; rintro e w3 ⟨rfl, hb3⟩)
              | (go_at_call 38; refine (w38 (uv k) (U.c k) _ (Words.next hb3 FW.out) VM.out).mono ?_; rintro e w4 ⟨s', rfl, hl4, hw4, hb4, hfr4⟩; replace hl4 := hid hl4; replace hw4 := hid hw4; replace hfr4 := hid hfr4
                 have ow5 := (Ow.below (w := wr.drew) OW.out hb3 OW.out.lt).below hb4 (Nat.lt_of_lt_of_le OW.out.lt hb3.size)
                 obtain ⟨x1, x2, w6, y0, y1, y2, e1, e2, e3, c0, z0, c1, z1, c2, z2, wr6, ow6, b6⟩ := store3 (o := k * 3) (.string (U.t k)) (.int .i64 (U.l k)) (.slice s'.a s'.n s'.c) ow5 (by omega)
                 replace ow5 := hid ow5))
          have h3 : wr.heap.size ≤ w3.heap.size := hb3.size
          have hgl := OW.out.lt
          have b35 : Below wr.heap.size wr w4 := ((Below.refl wr.heap.size wr).drew.trans hb3).trans (hb4.mono h3)
          have FI6 : Hid (FstX 3 (GR U) w6 ws.heap.size (k + 1) uv U.c) := fstX_snoc (fun _ _ => rfl) (FI.out.below b35 (Nat.le_refl _)) wr6.out hl4.out hw4.out (fun b hb => by have := hfr4.out b hb; omega)
          have SZ6 : Hid (St13 w #[.slice pa pn pc, .slice none rn rc, .slice (some ⟨b, of, none⟩) un uc, .slice ga gn gc, .slice xa xn xc, .slice ya yn yc] (nil6.setIfInBounds 0 (.slice p'.a p'.n p'.c)) w6) := (SZ.out.next b35).wrote wr6.out b6.out (by omega)
          have KP6 : Hid (Kp (w.heap.size + 1 + 1 + 1) ws w6) := (KP.out.below b35 (Nat.le_refl _)).wrote wr6.out (b6.out 0 (Nat.zero_le _)).size (Nat.le_refl _)
          clear hb3 hb4 b35 h3 hgl e1 e2 e3 c0 z0 c1 z1 c2 z2 wr6 b6 hl4 hw4 hfr4 ow5 OW FI SZ KP
          go_wp2
          go_roundw
          case rel => exact ⟨k + 1, by omega, by go_num, SZ6, ow6, FI6, KP6⟩
          case measure => simp [intOf]; omega
        obtain rfl : un = k := by omega
        obtain ⟨uv', e1, e2, e3⟩ := fstX_roles (c := un) FI.out
        have E1 := hid e1
        have Vu := hid e2
        have hgw : (w.heap.size + 1 + 1 + 1) ≤ ws.heap.size := ST.out.size
        have RH : Hid (RHi (w.heap.size + 1 + 1 + 1) ⟨some ⟨ws.heap.size, 0, none⟩, un, un⟩ uv') := ⟨fun b hb => by cases hb; exact hgw, fun i hi b hb => by have := e3 i hi b hb; omega⟩
        obtain ⟨wtu, hwtu⟩ : ∃ wn, wr.setCell ⟨w.heap.size + 1 + 1, 2, none⟩ (.slice (some ⟨ws.heap.size, 0, none⟩) un un) = wn := ⟨_, rfl⟩
        have cj : wr.cell? ⟨w.heap.size + 1 + 1, 2, none⟩ = some (.slice none 0 0) := SZ.out.out.cell 2 _ rfl
        have zj : wr.frozen? ⟨w.heap.size + 1 + 1, 2, none⟩ = false := SZ.out.out.frozen 2
        have ST2 : Hid (St13 w #[.slice pa pn pc, .slice none rn rc, .slice (some xu) un uc, .slice ga gn gc, .slice xa xn xc, .slice ya yn yc] ((nil6.setIfInBounds 0 (.slice p'.a p'.n p'.c)).setIfInBounds 2 (.slice (some ⟨ws.heap.size, 0, none⟩) un un)) wtu) := hwtu ▸ SZ.out.set 2 _
        have kp2 : Kp (w.heap.size + 1 + 1 + 1) wr wtu := hwtu ▸ (Kp.refl (w.heap.size + 1 + 1 + 1) wr).set ⟨w.heap.size + 1 + 1, 2, none⟩ _ (Or.inl (by show w.heap.size + 1 + 1 < (w.heap.size + 1 + 1 + 1); omega))
        have ALL2 : Hid (∀ wj, Kp (w.heap.size + 1 + 1 + 1) wtu wj → ((Words wj p' P) ∧ Roles wj ⟨none, 0, 0⟩ rv R) ∧ Roles wj ⟨some ⟨ws.heap.size, 0, none⟩, un, un⟩ uv' U) := fun wj h => ⟨ALL.out wj ((KP.out.trans kp2).trans h), E1.out.kp RH.out (kp2.trans h)⟩
        clear e1 e2 e3 E1 RH kp2 SZ OW FI KP ST ALL hgw hlt hk
        have ST := ST2
        have ALL := ALL2
        clear ST2 ALL2
        have q3 : wtu.cell? ⟨w.heap.size, 3, none⟩ = some (.slice ga gn gc) := ST.out.box.cell 3 _ rfl
        cases ga with
        | none =>
          have hg0 : Hid (gn = 0) := by
            rcases HS0.out.2.2.2.1 with h | ⟨b, of, ha, _⟩
            · exact h
            · cases ha
          have ALLn : Hid (∀ wj, Kp (w.heap.size + 1 + 1 + 1) wtu wj → (((Words wj p' P) ∧ Roles wj ⟨none, 0, 0⟩ rv R) ∧ Roles wj ⟨some ⟨ws.heap.size, 0, none⟩, un, un⟩ uv' U) ∧ Grants wj ⟨none, 0, 0⟩ gv G) := fun wj kp => ⟨ALL.out wj kp, Or.inl rfl⟩
          replace ALL := ALLn
          clear ALLn
          have q4 : wtu.cell? ⟨w.heap.size, 4, none⟩ = some (.slice xa xn xc) := ST.out.box.cell 4 _ rfl
          go_wp2_with fail
          refine (w40 ⟨xa, xn, xc⟩ xv X wtu (HS0.out.2.2.2.2.1.below ST.out.below (Nat.le_refl _)) SM.out.2.2.2.2.1).mono ?_
          rintro e w7 ⟨x', xv', rfl, g1, g2, g3, hb, hf1, hf2⟩
          have xG := hid g1
          have XN := hid g2
          have XV := hid g3
          have XB := hid hb
          have XH : Hid (RHi (w.heap.size + 1 + 1 + 1) x' xv') := ⟨fun b hb => Nat.le_trans ST.out.size (hf1 b hb), fun i hi b hb => Nat.le_trans ST.out.size (hf2 i (by rw [← g2]; exact hi) b hb)⟩
          replace ST := hid (ST.out.next hb)
          clear g1 g2 g3 hf1 hf2 hb
          obtain ⟨w8, hw8⟩ : ∃ wn, w7.setCell ⟨w.heap.size + 1 + 1, 4, none⟩ (.slice x'.a x'.n x'.c) = wn := ⟨_, rfl⟩
          have c4 : w7.cell? ⟨w.heap.size + 1 + 1, 4, none⟩ = some (.slice none 0 0) := ST.out.out.cell 4 _ rfl
          have z4 : w7.frozen? ⟨w.heap.size + 1 + 1, 4, none⟩ = false := ST.out.out.frozen 4
          have ST2 : Hid (St13 w #[.slice pa pn pc, .slice none rn rc, .slice (some xu) un uc, .slice none gn gc, .slice xa xn xc, .slice ya yn yc] (((nil6.setIfInBounds 0 (.slice p'.a p'.n p'.c)).setIfInBounds 2 (.slice (some ⟨ws.heap.size, 0, none⟩) un un)).setIfInBounds 4 (.slice x'.a x'.n x'.c)) w8) := hw8 ▸ ST.out.set 4 _
          have kp2 : Kp (w.heap.size + 1 + 1 + 1) w7 w8 := hw8 ▸ (Kp.refl (w.heap.size + 1 + 1 + 1) w7).set ⟨w.heap.size + 1 + 1, 4, none⟩ _ (Or.inl (by show w.heap.size + 1 + 1 < (w.heap.size + 1 + 1 + 1); omega))
          have ALL2 : Hid (∀ wj, Kp (w.heap.size + 1 + 1 + 1) w8 wj → ((((Words wj p' P) ∧ Roles wj ⟨none, 0, 0⟩ rv R) ∧ Roles wj ⟨some ⟨ws.heap.size, 0, none⟩, un, un⟩ uv' U) ∧ Grants wj ⟨none, 0, 0⟩ gv G) ∧ Grants wj x' xv' X) := fun wj h => ⟨ALL.out wj (((Kp.refl (w.heap.size + 1 + 1 + 1) wtu).below XB.out (Nat.le_refl _)).trans (kp2.trans h)), xG.out.kp XH.out (kp2.trans h)⟩
          clear q4 xG XB XH kp2 ST ALL
          have ST := ST2
          have ALL := ALL2
          clear ST2 ALL2
          have q5 : w8.cell? ⟨w.heap.size, 5, none⟩ = some (.slice ya yn yc) := ST.out.box.cell 5 _ rfl
          go_wp2_with fail
          refine (w40 ⟨ya, yn, yc⟩ yv Y w8 (HS0.out.2.2.2.2.2.below ST.out.below (Nat.le_refl _)) SM.out.2.2.2.2.2).mono ?_
          rintro e w9 ⟨y', yv', rfl, g1, g2, g3, hb, hf1, hf2⟩
          have yG := hid g1
          have YN := hid g2
          have YV := hid g3
          have YB := hid hb
          have YH : Hid (RHi (w.heap.size + 1 + 1 + 1) y' yv') := ⟨fun b hb => Nat.le_trans ST.out.size (hf1 b hb), fun i hi b hb => Nat.le_trans ST.out.size (hf2 i (by rw [← g2]; exact hi) b hb)⟩
          replace ST := hid (ST.out.next hb)
          clear g1 g2 g3 hf1 hf2 hb
          obtain ⟨w10, hw10⟩ : ∃ wn, w9.setCell ⟨w.heap.size + 1 + 1, 5, none⟩ (.slice y'.a y'.n y'.c) = wn := ⟨_, rfl⟩
          have c5 : w9.cell? ⟨w.heap.size + 1 + 1, 5, none⟩ = some (.slice none 0 0) := ST.out.out.cell 5 _ rfl
          have z5 : w9.frozen? ⟨w.heap.size + 1 + 1, 5, none⟩ = false := ST.out.out.frozen 5
          have ST2 : Hid (St13 w #[.slice pa pn pc, .slice none rn rc, .slice (some xu) un uc, .slice none gn gc, .slice xa xn xc, .slice ya yn yc] ((((nil6.setIfInBounds 0 (.slice p'.a p'.n p'.c)).setIfInBounds 2 (.slice (some ⟨ws.heap.size, 0, none⟩) un un)).setIfInBounds 4 (.slice x'.a x'.n x'.c)).setIfInBounds 5 (.slice y'.a y'.n y'.c)) w10) := hw10 ▸ ST.out.set 5 _
          have kp2 : Kp (w.heap.size + 1 + 1 + 1) w9 w10 := hw10 ▸ (Kp.refl (w.heap.size + 1 + 1 + 1) w9).set ⟨w.heap.size + 1 + 1, 5, none⟩ _ (Or.inl (by show w.heap.size + 1 + 1 < (w.heap.size + 1 + 1 + 1); omega))
          have ALL2 : Hid (∀ wj, Kp (w.heap.size + 1 + 1 + 1) w10 wj → (((((Words wj p' P) ∧ Roles wj ⟨none, 0, 0⟩ rv R) ∧ Roles wj ⟨some ⟨ws.heap.size, 0, none⟩, un, un⟩ uv' U) ∧ Grants wj ⟨none, 0, 0⟩ gv G) ∧ Grants wj x' xv' X) ∧ Grants wj y' yv' Y) := fun wj h => ⟨ALL.out wj (((Kp.refl (w.heap.size + 1 + 1 + 1) w8).below YB.out (Nat.le_refl _)).trans (kp2.trans h)), yG.out.kp YH.out (kp2.trans h)⟩
          clear q5 yG YB YH kp2 ST ALL
          have ST := ST2
          have ALL := ALL2
          clear ST2 ALL2
          have r0 : w10.cell? ⟨w.heap.size + 1 + 1, 0, none⟩ = some (.slice p'.a p'.n p'.c) := ST.out.out.cell 0 _ rfl
          have r1 : w10.cell? ⟨w.heap.size + 1 + 1, 1, none⟩ = some (.slice none 0 0) := ST.out.out.cell 1 _ rfl
          have r2 : w10.cell? ⟨w.heap.size + 1 + 1, 2, none⟩ = some (.slice (some ⟨ws.heap.size, 0, none⟩) un un) := ST.out.out.cell 2 _ rfl
          have r3 : w10.cell? ⟨w.heap.size + 1 + 1, 3, none⟩ = some (.slice none 0 0) := ST.out.out.cell 3 _ rfl
          have r4 : w10.cell? ⟨w.heap.size + 1 + 1, 4, none⟩ = some (.slice x'.a x'.n x'.c) := ST.out.out.cell 4 _ rfl
          have r5 : w10.cell? ⟨w.heap.size + 1 + 1, 5, none⟩ = some (.slice y'.a y'.n y'.c) := ST.out.out.cell 5 _ rfl
          obtain ⟨x1, x2, x3, x4, x5, x6, e1, e2, e3, e4, e5, e6, k0, y0, k1, y1, k2, y2, k3, y3, k4, y4, k5, y5, t0, t1, t2, t3, t4, t5, KE, BE⟩ := storeRes ST.out.res (.slice p'.a p'.n p'.c) (.slice none 0 0) (.slice (some ⟨ws.heap.size, 0, none⟩) un un) (.slice none 0 0) (.slice x'.a x'.n x'.c) (.slice y'.a y'.n y'.c)
          have LE : Hid (Below w.heap.size w x6) := ST.out.below.trans (BE.out _ (Nat.le_succ _))
          have AE := hid (ALL.out x6 (KE.out (w.heap.size + 1 + 1 + 1) (by omega)))
          clear ST ALL KE BE
          go_wp2_with fail
          refine bodyPost_ret (v := .agg #[.slice p'.a p'.n p'.c, .slice none 0 0, .slice (some ⟨ws.heap.size, 0, none⟩) un un, .slice none 0 0, .slice x'.a x'.n x'.c, .slice y'.a y'.n y'.c]) (by simp [results, Try.results13, go_sem, t0, t1, t2, t3, t4, t5]) rfl ?_
          obtain ⟨⟨⟨⟨⟨a1, a2⟩, a3⟩, a4⟩, a5⟩, a6⟩ := AE.out
          exact ⟨⟨p', P, ⟨none, 0, 0⟩, rv, R, ⟨some ⟨ws.heap.size, 0, none⟩, un, un⟩, uv', U, ⟨none, 0, 0⟩, gv, G, x', xv', X, y', yv', Y⟩, rfl, ⟨a1, a2, a3, a4, a5, a6⟩, ⟨PL.out, rfl, hr0.out.symm, fun i hi => rfl, rfl, rfl, Vu.out, rfl, hg0.out.symm, fun i hi => rfl, rfl, XN.out, XV.out, rfl, YN.out, YV.out, rfl⟩, LE.out⟩
        | some xg =>
          have hmk := fun w => make34 gn SM.out.2.2.2.1.1 w
          have hn : gn ≤ 1048576 := SM.out.2.2.2.1.1
          go_wp2
          go_loopw [9] (fun i wr => ∃ k : Nat, k ≤ gn ∧ i = .int .i64 k ∧ Hid (St13 w #[.slice pa pn pc, .slice none rn rc, .slice (some xu) un uc, .slice (some xg) gn gc, .slice xa xn xc, .slice ya yn yc] ((nil6.setIfInBounds 0 (.slice p'.a p'.n p'.c)).setIfInBounds 2 (.slice (some ⟨ws.heap.size, 0, none⟩) un un)) wr) ∧ Hid (Ow wr wtu.heap.size 86 (gn * 6)) ∧ Hid (FstX 6 (GG G) wr wtu.heap.size k gv G.c) ∧ Hid (Kp (w.heap.size + 1 + 1 + 1) wtu wr)) (fun i _ => gn - (intOf i).toNat)
          case atStart => exact ⟨0, Nat.zero_le _, rfl, ST.out.next ((Below.refl _ _).alloc (Nat.le_refl _) _), ow_made wtu _ _ _, fstX_nil _ _ _ _ _ _, (Kp.refl _ _).below ((Below.refl _ _).alloc (Nat.le_refl _) _) (Nat.le_refl _)⟩
          case round =>
            clear hmk q3
            obtain ⟨k, hk, rfl, SZ, OW, FI, KP⟩ := hrel
            have q3 : wr.cell? ⟨w.heap.size, 3, none⟩ = some (.slice (some xg) gn gc) := SZ.out.box.cell 3 _ rfl
            by_cases hlt : k < gn
            · skip
              rcases HS0.out.2.2.2.1.below SZ.out.below (Nat.le_refl _) with h | ⟨b, of, ha, hc⟩
              · exact absurd h (by dsimp only; omega)
              obtain rfl : xg = ⟨b, of, none⟩ := by simpa using ha
              have VM := hid (SM.out.2.2.2.1.2 k hlt)
              have hgw : (w.heap.size + 1 + 1 + 1) ≤ wtu.heap.size := ST.out.size
              obtain ⟨f0, f1, f2, f3, f4, f5, fw⟩ := hc k hlt
              have hbw : b < w.heap.size := by
                rcases HS0.out.2.2.2.1 with h | ⟨b2, o2, ha2, hc2⟩
                · exact absurd h (by dsimp only; omega)
                · have h2 := World.block_lt_of_cell? w _ (hc2 k hlt).1
                  have h3 : b = b2 := by simpa using congrArg (Option.map Addr.block) ha2
                  rw [h3]; exact h2
              have NB : Hid (b ≠ wtu.heap.size) := by show b ≠ _; omega
              have NH : Hid (w.heap.size ≠ wtu.heap.size) := by show w.heap.size ≠ _; omega
              have i0 : (0 : Int) ≤ (k : Int) := by omega
              have i1 : (k : Int) < (gn : Int) := by omega
              obtain ⟨w2x, hw2x⟩ : ∃ wn, wr.alloc (Obj.cells #[.int .i64 (G.l0 k), .string (G.t1 k), .int .i64 (G.l1 k), .slice (gv k).a (gv k).n (gv k).c, .string (G.t2 k), .int .i64 (G.l2 k)] 72) = wn := ⟨_, rfl⟩
              have bx : Below wr.heap.size wr w2x := by rw [← hw2x]; exact (Below.refl _ _).alloc (Nat.le_refl _) _
              have hq : Blk w2x wr.heap.size 72 #[.int .i64 (G.l0 k), .string (G.t1 k), .int .i64 (G.l1 k), .slice (gv k).a (gv k).n (gv k).c, .string (G.t2 k), .int .i64 (G.l2 k)] := by rw [← hw2x]; exact blk_new wr 72 _
              have d0 : w2x.cell? ⟨wr.heap.size, 0, none⟩ = some (.int .i64 (G.l0 k)) := hq.cell 0 _ rfl
              have d1 : w2x.cell? ⟨wr.heap.size, 1, none⟩ = some (.string (G.t1 k)) := hq.cell 1 _ rfl
              have d2 : w2x.cell? ⟨wr.heap.size, 2, none⟩ = some (.int .i64 (G.l1 k)) := hq.cell 2 _ rfl
              have d3 : w2x.cell? ⟨wr.heap.size, 3, none⟩ = some (.slice (gv k).a (gv k).n (gv k).c) := hq.cell 3 _ rfl
              have d4 : w2x.cell? ⟨wr.heap.size, 4, none⟩ = some (.string (G.t2 k)) := hq.cell 4 _ rfl
              have d5 : w2x.cell? ⟨wr.heap.size, 5, none⟩ = some (.int .i64 (G.l2 k)) := hq.cell 5 _ rfl
              have FW := hid (Words.next bx fw)
              have HW2 := hid hw2x
              have BX := hid bx
              have OW2 := hid (OW.out.below bx OW.out.lt)
              have NG : Hid (wr.heap.size ≠ wtu.heap.size) := Nat.ne_of_gt OW.out.lt
              clear hc fw ha hw2x bx hq
              go_wp2_with fail
              rw [HW2.out]
              go_region_held3 (fun w' => w'.cell? ⟨wr.heap.size, 0, none⟩ = some (.int .i64 (G.l0 k)) ∧ w'.cell? ⟨wr.heap.size, 1, none⟩ = some (.string (G.t1 k)) ∧ w'.cell? ⟨wr.heap.size, 2, none⟩ = some (.int .i64 (G.l1 k)) ∧ w'.cell? ⟨wr.heap.size, 3, none⟩ = some (.slice (gv k).a (gv k).n (gv k).c) ∧ w'.cell? ⟨wr.heap.size, 4, none⟩ = some (.string (G.t2 k)) ∧ w'.cell? ⟨wr.heap.size, 5, none⟩ = some (.int .i64 (G.l2 k)))
                (first
                  | with_reducible exact ⟨cellDrew d0, cellDrew d1, cellDrew d2, cellDrew d3, cellDrew d4, cellDrew d5⟩
                  | (go_split_ands
                     refine ⟨?_, ?_, ?_, ?_, ?_, ?_⟩
                     · first | with_reducible exact cellKeep hb5 (by assumption) | with_reducible exact cellKeep hb4 (by assumption) | with_reducible exact cellKeep hb3 (by assumption) | with_reducible exact Wrote.cellFar wr6.out (by assumption) NG.out
                     · first | with_reducible exact cellKeep hb5 (by assumption) | with_reducible exact cellKeep hb4 (by assumption) | with_reducible exact cellKeep hb3 (by assumption) | with_reducible exact Wrote.cellFar wr6.out (by assumption) NG.out
                     · first | with_reducible exact cellKeep hb5 (by assumption) | with_reducible exact cellKeep hb4 (by assumption) | with_reducible exact cellKeep hb3 (by assumption) | with_reducible exact Wrote.cellFar wr6.out (by assumption) NG.out
                     · first | with_reducible exact cellKeep hb5 (by assumption) | with_reducible exact cellKeep hb4 (by assumption) | with_reducible exact cellKeep hb3 (by assumption) | with_reducible exact Wrote.cellFar wr6.out (by assumption) NG.out
                     · first | with_reducible exact cellKeep hb5 (by assumption) | with_reducible exact cellKeep hb4 (by assumption) | with_reducible exact cellKeep hb3 (by assumption) | with_reducible exact Wrote.cellFar wr6.out (by assumption) NG.out
                     · first | with_reducible exact cellKeep hb5 (by assumption) | with_reducible exact cellKeep hb4 (by assumption) | with_reducible exact cellKeep hb3 (by assumption) | with_reducible exact Wrote.cellFar wr6.out (by assumption) NG.out)
                  | fail)
                (first
                  | (go_at_call_of 39 (G.t1 k); refine (w39 _ _ _).mono ?_; rintro e w3 ⟨rfl, hb3⟩)
                  | (go_at_call_of 39 (G.t2 k); refine (w39 _ _ _).mono ?_; rintro e w5 ⟨rfl, hb5⟩
                     have ow5 := ((Ow.below (w := w2x.drew) OW2.out hb3 OW2.out.lt).below hb4 (Nat.lt_of_lt_of_le OW2.out.lt hb3.size)).below hb5 (Nat.lt_of_lt_of_le OW2.out.lt (Nat.le_trans hb3.size hb4.size))
                     obtain ⟨x1, x2, x3, x4, x5, w6, y0, y1, y2, y3, y4, y5, e1, e2, e3, e4, e5, e6, c0, z0, c1, z1, c2, z2, c3, z3, c4, z4, c5, z5, wr6, ow6, b6⟩ := store6 (o := k * 6) (.int .i64 (G.l0 k)) (.string (G.t1 k)) (.int .i64 (G.l1 k)) (.slice s'.a s'.n s'.c) (.string (G.t2 k)) (.int .i64 (G.l2 k)) ow5 (by omega)
                     replace ow5 := hid ow5)
                  | (go_at_call 38; refine (w38 (gv k) (G.c k) _ (Words.next hb3 FW.out) VM.out).mono ?_; rintro e w4 ⟨s', rfl, hl4, hw4, hb4, hfr4⟩; replace hl4 := hid hl4; replace hw4 := hid hw4; replace hfr4 := hid hfr4))
              have h2 := BX.out.size
              have h3 : w2x.heap.size ≤ w3.heap.size := hb3.size
              have h4 := hb4.size
              have hgl := OW.out.lt
              have b25 : Below w2x.heap.size w2x w5 := ((Below.refl w2x.heap.size w2x).drew.trans hb3).trans ((hb4.trans (hb5.mono h4)).mono h3)
              have b35 : Below wr.heap.size wr w5 := BX.out.trans (b25.mono h2)
              have FI6 : Hid (FstX 6 (GG G) w6 wtu.heap.size (k + 1) gv G.c) := fstX_snoc (fun _ _ => rfl) (FI.out.below b35 (Nat.le_refl _)) wr6.out hl4.out (hw4.out.below hb5 (Nat.le_refl _)) (fun b hb => by have := hfr4.out b hb; omega)
              have SZ6 : Hid (St13 w #[.slice pa pn pc, .slice none rn rc, .slice (some xu) un uc, .slice (some ⟨b, of, none⟩) gn gc, .slice xa xn xc, .slice ya yn yc] ((nil6.setIfInBounds 0 (.slice p'.a p'.n p'.c)).setIfInBounds 2 (.slice (some ⟨ws.heap.size, 0, none⟩) un un)) w6) := (SZ.out.next b35).wrote wr6.out b6.out (by omega)
              have KP6 : Hid (Kp (w.heap.size + 1 + 1 + 1) wtu w6) := (KP.out.below b35 (Nat.le_refl _)).wrote wr6.out (b6.out 0 (Nat.zero_le _)).size (Nat.le_refl _)
              clear hb3 hb4 hb5 b35 b25 h2 h3 h4 hgl e1 e2 e3 e4 e5 e6 c0 z0 c1 z1 c2 z2 c3 z3 c4 z4 c5 z5 wr6 b6 hl4 hw4 hfr4 ow5 OW OW2 FI SZ KP
              go_wp2
              go_roundw
              case rel => exact ⟨k + 1, by omega, by go_num, SZ6, ow6, FI6, KP6⟩
              case measure => simp [intOf]; omega
            obtain rfl : gn = k := by omega
            obtain ⟨gv', e1, e2, e3⟩ := fstX_grants (c := gn) FI.out
            have E1 := hid e1
            have Vg := hid e2
            have hgw : (w.heap.size + 1 + 1 + 1) ≤ wtu.heap.size := ST.out.size
            have RH : Hid (RHi (w.heap.size + 1 + 1 + 1) ⟨some ⟨wtu.heap.size, 0, none⟩, gn, gn⟩ gv') := ⟨fun b hb => by cases hb; exact hgw, fun i hi b hb => by have := e3 i hi b hb; omega⟩
            obtain ⟨wtg, hwtg⟩ : ∃ wn, wr.setCell ⟨w.heap.size + 1 + 1, 3, none⟩ (.slice (some ⟨wtu.heap.size, 0, none⟩) gn gn) = wn := ⟨_, rfl⟩
            have cj : wr.cell? ⟨w.heap.size + 1 + 1, 3, none⟩ = some (.slice none 0 0) := SZ.out.out.cell 3 _ rfl
            have zj : wr.frozen? ⟨w.heap.size + 1 + 1, 3, none⟩ = false := SZ.out.out.frozen 3
            have ST2 : Hid (St13 w #[.slice pa pn pc, .slice none rn rc, .slice (some xu) un uc, .slice (some xg) gn gc, .slice xa xn xc, .slice ya yn yc] (((nil6.setIfInBounds 0 (.slice p'.a p'.n p'.c)).setIfInBounds 2 (.slice (some ⟨ws.heap.size, 0, none⟩) un un)).setIfInBounds 3 (.slice (some ⟨wtu.heap.size, 0, none⟩) gn gn)) wtg) := hwtg ▸ SZ.out.set 3 _
            have kp2 : Kp (w.heap.size + 1 + 1 + 1) wr wtg := hwtg ▸ (Kp.refl (w.heap.size + 1 + 1 + 1) wr).set ⟨w.heap.size + 1 + 1, 3, none⟩ _ (Or.inl (by show w.heap.size + 1 + 1 < (w.heap.size + 1 + 1 + 1); omega))
            have ALL2 : Hid (∀ wj, Kp (w.heap.size + 1 + 1 + 1) wtg wj → (((Words wj p' P) ∧ Roles wj ⟨none, 0, 0⟩ rv R) ∧ Roles wj ⟨some ⟨ws.heap.size, 0, none⟩, un, un⟩ uv' U) ∧ Grants wj ⟨some ⟨wtu.heap.size, 0, none⟩, gn, gn⟩ gv' G) := fun wj h => ⟨ALL.out wj ((KP.out.trans kp2).trans h), E1.out.kp RH.out (kp2.trans h)⟩
            clear e1 e2 e3 E1 RH kp2 SZ OW FI KP ST ALL hgw hlt hk
            have ST := ST2
            have ALL := ALL2
            clear ST2 ALL2
            have q4 : wtg.cell? ⟨w.heap.size, 4, none⟩ = some (.slice xa xn xc) := ST.out.box.cell 4 _ rfl
            go_wp2_with fail
            refine (w40 ⟨xa, xn, xc⟩ xv X wtg (HS0.out.2.2.2.2.1.below ST.out.below (Nat.le_refl _)) SM.out.2.2.2.2.1).mono ?_
            rintro e w7 ⟨x', xv', rfl, g1, g2, g3, hb, hf1, hf2⟩
            have xG := hid g1
            have XN := hid g2
            have XV := hid g3
            have XB := hid hb
            have XH : Hid (RHi (w.heap.size + 1 + 1 + 1) x' xv') := ⟨fun b hb => Nat.le_trans ST.out.size (hf1 b hb), fun i hi b hb => Nat.le_trans ST.out.size (hf2 i (by rw [← g2]; exact hi) b hb)⟩
            replace ST := hid (ST.out.next hb)
            clear g1 g2 g3 hf1 hf2 hb
            obtain ⟨w8, hw8⟩ : ∃ wn, w7.setCell ⟨w.heap.size + 1 + 1, 4, none⟩ (.slice x'.a x'.n x'.c) = wn := ⟨_, rfl⟩
            have c4 : w7.cell? ⟨w.heap.size + 1 + 1, 4, none⟩ = some (.slice none 0 0) := ST.out.out.cell 4 _ rfl
            have z4 : w7.frozen? ⟨w.heap.size + 1 + 1, 4, none⟩ = false := ST.out.out.frozen 4
            have ST2 : Hid (St13 w #[.slice pa pn pc, .slice none rn rc, .slice (some xu) un uc, .slice (some xg) gn gc, .slice xa xn xc, .slice ya yn yc] ((((nil6.setIfInBounds 0 (.slice p'.a p'.n p'.c)).setIfInBounds 2 (.slice (some ⟨ws.heap.size, 0, none⟩) un un)).setIfInBounds 3 (.slice (some ⟨wtu.heap.size, 0, none⟩) gn gn)).setIfInBounds 4 (.slice x'.a x'.n x'.c)) w8) := hw8 ▸ ST.out.set 4 _
            have kp2 : Kp (w.heap.size + 1 + 1 + 1) w7 w8 := hw8 ▸ (Kp.refl (w.heap.size + 1 + 1 + 1) w7).set ⟨w.heap.size + 1 + 1, 4, none⟩ _ (Or.inl (by show w.heap.size + 1 + 1 < (w.heap.size + 1 + 1 + 1); omega))
            have ALL2 : Hid (∀ wj, Kp (w.heap.size + 1 + 1 + 1) w8 wj → ((((Words wj p' P) ∧ Roles wj ⟨none, 0, 0⟩ rv R) ∧ Roles wj ⟨some ⟨ws.heap.size, 0, none⟩, un, un⟩ uv' U) ∧ Grants wj ⟨some ⟨wtu.heap.size, 0, none⟩, gn, gn⟩ gv' G) ∧ Grants wj x' xv' X) := fun wj h => ⟨ALL.out wj (((Kp.refl (w.heap.size + 1 + 1 + 1) wtg).below XB.out (Nat.le_refl _)).trans (kp2.trans h)), xG.out.kp XH.out (kp2.trans h)⟩
            clear q4 xG XB XH kp2 ST ALL
            have ST := ST2
            have ALL := ALL2
            clear ST2 ALL2
            have q5 : w8.cell? ⟨w.heap.size, 5, none⟩ = some (.slice ya yn yc) := ST.out.box.cell 5 _ rfl
            go_wp2_with fail
            refine (w40 ⟨ya, yn, yc⟩ yv Y w8 (HS0.out.2.2.2.2.2.below ST.out.below (Nat.le_refl _)) SM.out.2.2.2.2.2).mono ?_
            rintro e w9 ⟨y', yv', rfl, g1, g2, g3, hb, hf1, hf2⟩
            have yG := hid g1
            have YN := hid g2
            have YV := hid g3
            have YB := hid hb
            have YH : Hid (RHi (w.heap.size + 1 + 1 + 1) y' yv') := ⟨fun b hb => Nat.le_trans ST.out.size (hf1 b hb), fun i hi b hb => Nat.le_trans ST.out.size (hf2 i (by rw [← g2]; exact hi) b hb)⟩
            replace ST := hid (ST.out.next hb)
            clear g1 g2 g3 hf1 hf2 hb
            obtain ⟨w10, hw10⟩ : ∃ wn, w9.setCell ⟨w.heap.size + 1 + 1, 5, none⟩ (.slice y'.a y'.n y'.c) = wn := ⟨_, rfl⟩
            have c5 : w9.cell? ⟨w.heap.size + 1 + 1, 5, none⟩ = some (.slice none 0 0) := ST.out.out.cell 5 _ rfl
            have z5 : w9.frozen? ⟨w.heap.size + 1 + 1, 5, none⟩ = false := ST.out.out.frozen 5
            have ST2 : Hid (St13 w #[.slice pa pn pc, .slice none rn rc, .slice (some xu) un uc, .slice (some xg) gn gc, .slice xa xn xc, .slice ya yn yc] (((((nil6.setIfInBounds 0 (.slice p'.a p'.n p'.c)).setIfInBounds 2 (.slice (some ⟨ws.heap.size, 0, none⟩) un un)).setIfInBounds 3 (.slice (some ⟨wtu.heap.size, 0, none⟩) gn gn)).setIfInBounds 4 (.slice x'.a x'.n x'.c)).setIfInBounds 5 (.slice y'.a y'.n y'.c)) w10) := hw10 ▸ ST.out.set 5 _
            have kp2 : Kp (w.heap.size + 1 + 1 + 1) w9 w10 := hw10 ▸ (Kp.refl (w.heap.size + 1 + 1 + 1) w9).set ⟨w.heap.size + 1 + 1, 5, none⟩ _ (Or.inl (by show w.heap.size + 1 + 1 < (w.heap.size + 1 + 1 + 1); omega))
            have ALL2 : Hid (∀ wj, Kp (w.heap.size + 1 + 1 + 1) w10 wj → (((((Words wj p' P) ∧ Roles wj ⟨none, 0, 0⟩ rv R) ∧ Roles wj ⟨some ⟨ws.heap.size, 0, none⟩, un, un⟩ uv' U) ∧ Grants wj ⟨some ⟨wtu.heap.size, 0, none⟩, gn, gn⟩ gv' G) ∧ Grants wj x' xv' X) ∧ Grants wj y' yv' Y) := fun wj h => ⟨ALL.out wj (((Kp.refl (w.heap.size + 1 + 1 + 1) w8).below YB.out (Nat.le_refl _)).trans (kp2.trans h)), yG.out.kp YH.out (kp2.trans h)⟩
            clear q5 yG YB YH kp2 ST ALL
            have ST := ST2
            have ALL := ALL2
            clear ST2 ALL2
            have r0 : w10.cell? ⟨w.heap.size + 1 + 1, 0, none⟩ = some (.slice p'.a p'.n p'.c) := ST.out.out.cell 0 _ rfl
            have r1 : w10.cell? ⟨w.heap.size + 1 + 1, 1, none⟩ = some (.slice none 0 0) := ST.out.out.cell 1 _ rfl
            have r2 : w10.cell? ⟨w.heap.size + 1 + 1, 2, none⟩ = some (.slice (some ⟨ws.heap.size, 0, none⟩) un un) := ST.out.out.cell 2 _ rfl
            have r3 : w10.cell? ⟨w.heap.size + 1 + 1, 3, none⟩ = some (.slice (some ⟨wtu.heap.size, 0, none⟩) gn gn) := ST.out.out.cell 3 _ rfl
            have r4 : w10.cell? ⟨w.heap.size + 1 + 1, 4, none⟩ = some (.slice x'.a x'.n x'.c) := ST.out.out.cell 4 _ rfl
            have r5 : w10.cell? ⟨w.heap.size + 1 + 1, 5, none⟩ = some (.slice y'.a y'.n y'.c) := ST.out.out.cell 5 _ rfl
            obtain ⟨x1, x2, x3, x4, x5, x6, e1, e2, e3, e4, e5, e6, k0, y0, k1, y1, k2, y2, k3, y3, k4, y4, k5, y5, t0, t1, t2, t3, t4, t5, KE, BE⟩ := storeRes ST.out.res (.slice p'.a p'.n p'.c) (.slice none 0 0) (.slice (some ⟨ws.heap.size, 0, none⟩) un un) (.slice (some ⟨wtu.heap.size, 0, none⟩) gn gn) (.slice x'.a x'.n x'.c) (.slice y'.a y'.n y'.c)
            have LE : Hid (Below w.heap.size w x6) := ST.out.below.trans (BE.out _ (Nat.le_succ _))
            have AE := hid (ALL.out x6 (KE.out (w.heap.size + 1 + 1 + 1) (by omega)))
            clear ST ALL KE BE
            go_wp2_with fail
            refine bodyPost_ret (v := .agg #[.slice p'.a p'.n p'.c, .slice none 0 0, .slice (some ⟨ws.heap.size, 0, none⟩) un un, .slice (some ⟨wtu.heap.size, 0, none⟩) gn gn, .slice x'.a x'.n x'.c, .slice y'.a y'.n y'.c]) (by simp [results, Try.results13, go_sem, t0, t1, t2, t3, t4, t5]) rfl ?_
            obtain ⟨⟨⟨⟨⟨a1, a2⟩, a3⟩, a4⟩, a5⟩, a6⟩ := AE.out
            exact ⟨⟨p', P, ⟨none, 0, 0⟩, rv, R, ⟨some ⟨ws.heap.size, 0, none⟩, un, un⟩, uv', U, ⟨some ⟨wtu.heap.size, 0, none⟩, gn, gn⟩, gv', G, x', xv', X, y', yv', Y⟩, rfl, ⟨a1, a2, a3, a4, a5, a6⟩, ⟨PL.out, rfl, hr0.out.symm, fun i hi => rfl, rfl, rfl, Vu.out, rfl, rfl, Vg.out, rfl, XN.out, XV.out, rfl, YN.out, YV.out, rfl⟩, LE.out⟩
  | some xr =>
    have hmk := fun w => make32 rn SM.out.2.1.1 w
    have hn : rn ≤ 1048576 := SM.out.2.1.1
    go_wp2
    go_loopw [5] (fun i wr => ∃ k : Nat, k ≤ rn ∧ i = .int .i64 k ∧ Hid (St13 w #[.slice pa pn pc, .slice (some xr) rn rc, .slice ua un uc, .slice ga gn gc, .slice xa xn xc, .slice ya yn yc] (nil6.setIfInBounds 0 (.slice p'.a p'.n p'.c)) wr) ∧ Hid (Ow wr ws.heap.size 82 (rn * 3)) ∧ Hid (FstX 3 (GR R) wr ws.heap.size k rv R.c) ∧ Hid (Kp (w.heap.size + 1 + 1 + 1) ws wr)) (fun i _ => rn - (intOf i).toNat)
    case atStart => exact ⟨0, Nat.zero_le _, rfl, ST.out.next ((Below.refl _ _).alloc (Nat.le_refl _) _), ow_made ws _ _ _, fstX_nil _ _ _ _ _ _, (Kp.refl _ _).below ((Below.refl _ _).alloc (Nat.le_refl _) _) (Nat.le_refl _)⟩
    case round =>
      clear hmk q1
      obtain ⟨k, hk, rfl, SZ, OW, FI, KP⟩ := hrel
      have q1 : wr.cell? ⟨w.heap.size, 1, none⟩ = some (.slice (some xr) rn rc) := SZ.out.box.cell 1 _ rfl
      by_cases hlt : k < rn
      · skip
        rcases HS0.out.2.1.below SZ.out.below (Nat.le_refl _) with h | ⟨b, of, ha, hc⟩
        · exact absurd h (by dsimp only; omega)
        obtain rfl : xr = ⟨b, of, none⟩ := by simpa using ha
        have VM := hid (SM.out.2.1.2 k hlt)
        have hgw : (w.heap.size + 1 + 1 + 1) ≤ ws.heap.size := ST.out.size
        obtain ⟨f0, f1, f2, fw⟩ := hc k hlt
        have hbw : b < w.heap.size := by
          rcases HS0.out.2.1 with h | ⟨b2, o2, ha2, hc2⟩
          · exact absurd h (by dsimp only; omega)
          · have h2 := World.block_lt_of_cell? w _ (hc2 k hlt).1
            have h3 : b = b2 := by simpa using congrArg (Option.map Addr.block) ha2
            rw [h3]; exact h2
        have NB : Hid (b ≠ ws.heap.size) := by show b ≠ _; omega
        have NH : Hid (w.heap.size ≠ ws.heap.size) := by show w.heap.size ≠ _; omega
        have i0 : (0 : Int) ≤ (k : Int) := by omega
        have i1 : (k : Int) < (rn : Int) := by omega
        have FW := hid fw
        clear hc fw ha
        go_wp2_with fail
        go_region_held3 (fun w' => w'.cell? ⟨w.heap.size, 1, none⟩ = some (.slice (some ⟨b, of, none⟩) rn rc) ∧ w'.cell? ⟨b, of + k * 3, none⟩ = some (.string (R.t k)) ∧ w'.cell? ⟨b, of + k * 3 + 1, none⟩ = some (.int .i64 (R.l k)) ∧ w'.cell? ⟨b, of + k * 3 + 2, none⟩ = some (.slice (rv k).a (rv k).n (rv k).c))
          (first
            | with_reducible exact ⟨cellDrew q1, cellDrew f0, cellDrew f1, cellDrew f2⟩
            | (go_split_ands
               refine ⟨?_, ?_, ?_, ?_⟩
               · first | with_reducible exact cellKeep hb4 (by assumption) | with_reducible exact cellKeep hb3 (by assumption) | with_reducible exact Wrote.cellFar wr6.out (by assumption) NH.out
               · first | with_reducible exact cellKeep hb4 (by assumption) | with_reducible exact cellKeep hb3 (by assumption) | with_reducible exact Wrote.cellFar wr6.out (by assumption) NB.out
               · first | with_reducible exact cellKeep hb4 (by assumption) | with_reducible exact cellKeep hb3 (by assumption) | with_reducible exact Wrote.cellFar wr6.out (by assumption) NB.out
               · first | with_reducible exact cellKeep hb4 (by assumption) | with_reducible exact cellKeep hb3 (by assumption) | with_reducible exact Wrote.cellFar wr6.out (by assumption) NB.out)
            | fail)
          (first
            | (go_at_call 39; refine (w39 _ _ _).mono ?_; rintro e w3 ⟨rfl, hb3⟩)
            | (go_at_call 38; refine (w38 (rv k) (R.c k) _ (Words.next hb3 FW.out) VM.out).mono ?_; rintro e w4 ⟨s', rfl, hl4, hw4, hb4, hfr4⟩; replace hl4 := hid hl4; replace hw4 := hid hw4; replace hfr4 := hid hfr4
               have ow5 := (Ow.below (w := wr.drew) OW.out hb3 OW.out.lt).below hb4 (Nat.lt_of_lt_of_le OW.out.lt hb3.size)
               obtain ⟨x1, x2, w6, y0, y1, y2, e1, e2, e3, c0, z0, c1, z1, c2, z2, wr6, ow6, b6⟩ := store3 (o := k * 3) (.string (R.t k)) (.int .i64 (R.l k)) (.slice s'.a s'.n s'.c) ow5 (by omega)
               replace ow5 := hid ow5))
        have h3 : wr.heap.size ≤ w3.heap.size := hb3.size
        have hgl := OW.out.lt
        have b35 : Below wr.heap.size wr w4 := ((Below.refl wr.heap.size wr).drew.trans hb3).trans (hb4.mono h3)
        have FI6 : Hid (FstX 3 (GR R) w6 ws.heap.size (k + 1) rv R.c) := fstX_snoc (fun _ _ => rfl) (FI.out.below b35 (Nat.le_refl _)) wr6.out hl4.out hw4.out (fun b hb => by have := hfr4.out b hb; omega)
        have SZ6 : Hid (St13 w #[.slice pa pn pc, .slice (some ⟨b, of, none⟩) rn rc, .slice ua un uc, .slice ga gn gc, .slice xa xn xc, .slice ya yn yc] (nil6.setIfInBounds 0 (.slice p'.a p'.n p'.c)) w6) := (SZ.out.next b35).wrote wr6.out b6.out (by omega)
        have KP6 : Hid (Kp (w.heap.size + 1 + 1 + 1) ws w6) := (KP.out.below b35 (Nat.le_refl _)).wrote wr6.out (b6.out 0 (Nat.zero_le _)).size (Nat.le_refl _)
        clear hb3 hb4 b35 h3 hgl e1 e2 e3 c0 z0 c1 z1 c2 z2 wr6 b6 hl4 hw4 hfr4 ow5 OW FI SZ KP
        go_wp2
        go_roundw
        case rel => exact ⟨k + 1, by omega, by go_num, SZ6, ow6, FI6, KP6⟩
        case measure => simp [intOf]; omega
      obtain rfl : rn = k := by omega
      obtain ⟨rv', e1, e2, e3⟩ := fstX_roles (c := rn) FI.out
      have E1 := hid e1
      have Vr := hid e2
      have hgw : (w.heap.size + 1 + 1 + 1) ≤ ws.heap.size := ST.out.size
      have RH : Hid (RHi (w.heap.size + 1 + 1 + 1) ⟨some ⟨ws.heap.size, 0, none⟩, rn, rn⟩ rv') := ⟨fun b hb => by cases hb; exact hgw, fun i hi b hb => by have := e3 i hi b hb; omega⟩
      obtain ⟨wtr, hwtr⟩ : ∃ wn, wr.setCell ⟨w.heap.size + 1 + 1, 1, none⟩ (.slice (some ⟨ws.heap.size, 0, none⟩) rn rn) = wn := ⟨_, rfl⟩
      have cj : wr.cell? ⟨w.heap.size + 1 + 1, 1, none⟩ = some (.slice none 0 0) := SZ.out.out.cell 1 _ rfl
      have zj : wr.frozen? ⟨w.heap.size + 1 + 1, 1, none⟩ = false := SZ.out.out.frozen 1
      have ST2 : Hid (St13 w #[.slice pa pn pc, .slice (some xr) rn rc, .slice ua un uc, .slice ga gn gc, .slice xa xn xc, .slice ya yn yc] ((nil6.setIfInBounds 0 (.slice p'.a p'.n p'.c)).setIfInBounds 1 (.slice (some ⟨ws.heap.size, 0, none⟩) rn rn)) wtr) := hwtr ▸ SZ.out.set 1 _
      have kp2 : Kp (w.heap.size + 1 + 1 + 1) wr wtr := hwtr ▸ (Kp.refl (w.heap.size + 1 + 1 + 1) wr).set ⟨w.heap.size + 1 + 1, 1, none⟩ _ (Or.inl (by show w.heap.size + 1 + 1 < (w.heap.size + 1 + 1 + 1); omega))
      have ALL2 : Hid (∀ wj, Kp (w.heap.size + 1 + 1 + 1) wtr wj → (Words wj p' P) ∧ Roles wj ⟨some ⟨ws.heap.size, 0, none⟩, rn, rn⟩ rv' R) := fun wj h => ⟨ALL.out wj ((KP.out.trans kp2).trans h), E1.out.kp RH.out (kp2.trans h)⟩
      clear e1 e2 e3 E1 RH kp2 SZ OW FI KP ST ALL hgw hlt hk
      have ST := ST2
      have ALL := ALL2
      clear ST2 ALL2
      have q2 : wtr.cell? ⟨w.heap.size, 2, none⟩ = some (.slice ua un uc) := ST.out.box.cell 2 _ rfl
      cases ua with
      | none =>
        have hu0 : Hid (un = 0) := by
          rcases HS0.out.2.2.1 with h | ⟨b, of, ha, _⟩
          · exact h
          · cases ha
        have ALLn : Hid (∀ wj, Kp (w.heap.size + 1 + 1 + 1) wtr wj → ((Words wj p' P) ∧ Roles wj ⟨some ⟨ws.heap.size, 0, none⟩, rn, rn⟩ rv' R) ∧ Roles wj ⟨none, 0, 0⟩ uv U) := fun wj kp => ⟨ALL.out wj kp, Or.inl rfl⟩
        replace ALL := ALLn
        clear ALLn
        have q3 : wtr.cell? ⟨w.heap.size, 3, none⟩ = some (.slice ga gn gc) := ST.out.box.cell 3 _ rfl
        cases ga with
        | none =>
          have hg0 : Hid (gn = 0) := by
            rcases HS0.out.2.2.2.1 with h | ⟨b, of, ha, _⟩
            · exact h
            · cases ha
          have ALLn : Hid (∀ wj, Kp (w.heap.size + 1 + 1 + 1) wtr wj → (((Words wj p' P) ∧ Roles wj ⟨some ⟨ws.heap.size, 0, none⟩, rn, rn⟩ rv' R) ∧ Roles wj ⟨none, 0, 0⟩ uv U) ∧ Grants wj ⟨none, 0, 0⟩ gv G) := fun wj kp => ⟨ALL.out wj kp, Or.inl rfl⟩
          replace ALL := ALLn
          clear ALLn
          have q4 : wtr.cell? ⟨w.heap.size, 4, none⟩ = some (.slice xa xn xc) := ST.out.box.cell 4 _ rfl
          go_wp2_with fail
          refine (w40 ⟨xa, xn, xc⟩ xv X wtr (HS0.out.2.2.2.2.1.below ST.out.below (Nat.le_refl _)) SM.out.2.2.2.2.1).mono ?_
          rintro e w7 ⟨x', xv', rfl, g1, g2, g3, hb, hf1, hf2⟩
          have xG := hid g1
          have XN := hid g2
          have XV := hid g3
          have XB := hid hb
          have XH : Hid (RHi (w.heap.size + 1 + 1 + 1) x' xv') := ⟨fun b hb => Nat.le_trans ST.out.size (hf1 b hb), fun i hi b hb => Nat.le_trans ST.out.size (hf2 i (by rw [← g2]; exact hi) b hb)⟩
          replace ST := hid (ST.out.next hb)
          clear g1 g2 g3 hf1 hf2 hb
          obtain ⟨w8, hw8⟩ : ∃ wn, w7.setCell ⟨w.heap.size + 1 + 1, 4, none⟩ (.slice x'.a x'.n x'.c) = wn := ⟨_, rfl⟩
          have c4 : w7.cell? ⟨w.heap.size + 1 + 1, 4, none⟩ = some (.slice none 0 0) := ST.out.out.cell 4 _ rfl
          have z4 : w7.frozen? ⟨w.heap.size + 1 + 1, 4, none⟩ = false := ST.out.out.frozen 4
          have ST2 : Hid (St13 w #[.slice pa pn pc, .slice (some xr) rn rc, .slice none un uc, .slice none gn gc, .slice xa xn xc, .slice ya yn yc] (((nil6.setIfInBounds 0 (.slice p'.a p'.n p'.c)).setIfInBounds 1 (.slice (some ⟨ws.heap.size, 0, none⟩) rn rn)).setIfInBounds 4 (.slice x'.a x'.n x'.c)) w8) := hw8 ▸ ST.out.set 4 _
          have kp2 : Kp (w.heap.size + 1 + 1 + 1) w7 w8 := hw8 ▸ (Kp.refl (w.heap.size + 1 + 1 + 1) w7).set ⟨w.heap.size + 1 + 1, 4, none⟩ _ (Or.inl (by show w.heap.size + 1 + 1 < (w.heap.size + 1 + 1 + 1); omega))
          have ALL2 : Hid (∀ wj, Kp (w.heap.size + 1 + 1 + 1) w8 wj → ((((Words wj p' P) ∧ Roles wj ⟨some ⟨ws.heap.size, 0, none⟩, rn, rn⟩ rv' R) ∧ Roles wj ⟨none, 0, 0⟩ uv U) ∧ Grants wj ⟨none, 0, 0⟩ gv G) ∧ Grants wj x' xv' X) := fun wj h => ⟨ALL.out wj (((Kp.refl (w.heap.size + 1 + 1 + 1) wtr).below XB.out (Nat.le_refl _)).trans (kp2.trans h)), xG.out.kp XH.out (kp2.trans h)⟩
          clear q4 xG XB XH kp2 ST ALL
          have ST := ST2
          have ALL := ALL2
          clear ST2 ALL2
          have q5 : w8.cell? ⟨w.heap.size, 5, none⟩ = some (.slice ya yn yc) := ST.out.box.cell 5 _ rfl
          go_wp2_with fail
          refine (w40 ⟨ya, yn, yc⟩ yv Y w8 (HS0.out.2.2.2.2.2.below ST.out.below (Nat.le_refl _)) SM.out.2.2.2.2.2).mono ?_
          rintro e w9 ⟨y', yv', rfl, g1, g2, g3, hb, hf1, hf2⟩
          have yG := hid g1
          have YN := hid g2
          have YV := hid g3
          have YB := hid hb
          have YH : Hid (RHi (w.heap.size + 1 + 1 + 1) y' yv') := ⟨fun b hb => Nat.le_trans ST.out.size (hf1 b hb), fun i hi b hb => Nat.le_trans ST.out.size (hf2 i (by rw [← g2]; exact hi) b hb)⟩
          replace ST := hid (ST.out.next hb)
          clear g1 g2 g3 hf1 hf2 hb
          obtain ⟨w10, hw10⟩ : ∃ wn, w9.setCell ⟨w.heap.size + 1 + 1, 5, none⟩ (.slice y'.a y'.n y'.c) = wn := ⟨_, rfl⟩
          have c5 : w9.cell? ⟨w.heap.size + 1 + 1, 5, none⟩ = some (.slice none 0 0) := ST.out.out.cell 5 _ rfl
          have z5 : w9.frozen? ⟨w.heap.size + 1 + 1, 5, none⟩ = false := ST.out.out.frozen 5
          have ST2 : Hid (St13 w #[.slice pa pn pc, .slice (some xr) rn rc, .slice none un uc, .slice none gn gc, .slice xa xn xc, .slice ya yn yc] ((((nil6.setIfInBounds 0 (.slice p'.a p'.n p'.c)).setIfInBounds 1 (.slice (some ⟨ws.heap.size, 0, none⟩) rn rn)).setIfInBounds 4 (.slice x'.a x'.n x'.c)).setIfInBounds 5 (.slice y'.a y'.n y'.c)) w10) := hw10 ▸ ST.out.set 5 _
          have kp2 : Kp (w.heap.size + 1 + 1 + 1) w9 w10 := hw10 ▸ (Kp.refl (w.heap.size + 1 + 1 + 1) w9).set ⟨w.heap.size + 1 + 1, 5, none⟩ _ (Or.inl (by show w.heap.size + 1 + 1 < (w.heap.size + 1 + 1 + 1); omega))
          have ALL2 : Hid (∀ wj, Kp (w.heap.size + 1 + 1 + 1) w10 wj → (((((Words wj p' P) ∧ Roles wj ⟨some ⟨ws.heap.size, 0, none⟩, rn, rn⟩ rv' R) ∧ Roles wj ⟨none, 0, 0⟩ uv U) ∧ Grants wj ⟨none, 0, 0⟩ gv G) ∧ Grants wj x' xv' X) ∧ Grants wj y' yv' Y) := fun wj h => ⟨ALL.out wj (((Kp.refl (w.heap.size + 1 + 1 + 1) w8).below YB.out (Nat.le_refl _)).trans (kp2.trans h)), yG.out.kp YH.out (kp2.trans h)⟩
          clear q5 yG YB YH kp2 ST ALL
          have ST := ST2
          have ALL := ALL2
          clear ST2 ALL2
          have r0 : w10.cell? ⟨w.heap.size + 1 + 1, 0, none⟩ = some (.slice p'.a p'.n p'.c) := ST.out.out.cell 0 _ rfl
          have r1 : w10.cell? ⟨w.heap.size + 1 + 1, 1, none⟩ = some (.slice (some ⟨ws.heap.size, 0, none⟩) rn rn) := ST.out.out.cell 1 _ rfl
          have r2 : w10.cell? ⟨w.heap.size + 1 + 1, 2, none⟩ = some (.slice none 0 0) := ST.out.out.cell 2 _ rfl
          have r3 : w10.cell? ⟨w.heap.size + 1 + 1, 3, none⟩ = some (.slice none 0 0) := ST.out.out.cell 3 _ rfl
          have r4 : w10.cell? ⟨w.heap.size + 1 + 1, 4, none⟩ = some (.slice x'.a x'.n x'.c) := ST.out.out.cell 4 _ rfl
          have r5 : w10.cell? ⟨w.heap.size + 1 + 1, 5, none⟩ = some (.slice y'.a y'.n y'.c) := ST.out.out.cell 5 _ rfl
          obtain ⟨x1, x2, x3, x4, x5, x6, e1, e2, e3, e4, e5, e6, k0, y0, k1, y1, k2, y2, k3, y3, k4, y4, k5, y5, t0, t1, t2, t3, t4, t5, KE, BE⟩ := storeRes ST.out.res (.slice p'.a p'.n p'.c) (.slice (some ⟨ws.heap.size, 0, none⟩) rn rn) (.slice none 0 0) (.slice none 0 0) (.slice x'.a x'.n x'.c) (.slice y'.a y'.n y'.c)
          have LE : Hid (Below w.heap.size w x6) := ST.out.below.trans (BE.out _ (Nat.le_succ _))
          have AE := hid (ALL.out x6 (KE.out (w.heap.size + 1 + 1 + 1) (by omega)))
          clear ST ALL KE BE
          go_wp2_with fail
          refine bodyPost_ret (v := .agg #[.slice p'.a p'.n p'.c, .slice (some ⟨ws.heap.size, 0, none⟩) rn rn, .slice none 0 0, .slice none 0 0, .slice x'.a x'.n x'.c, .slice y'.a y'.n y'.c]) (by simp [results, Try.results13, go_sem, t0, t1, t2, t3, t4, t5]) rfl ?_
          obtain ⟨⟨⟨⟨⟨a1, a2⟩, a3⟩, a4⟩, a5⟩, a6⟩ := AE.out
          exact ⟨⟨p', P, ⟨some ⟨ws.heap.size, 0, none⟩, rn, rn⟩, rv', R, ⟨none, 0, 0⟩, uv, U, ⟨none, 0, 0⟩, gv, G, x', xv', X, y', yv', Y⟩, rfl, ⟨a1, a2, a3, a4, a5, a6⟩, ⟨PL.out, rfl, rfl, Vr.out, rfl, hu0.out.symm, fun i hi => rfl, rfl, hg0.out.symm, fun i hi => rfl, rfl, XN.out, XV.out, rfl, YN.out, YV.out, rfl⟩, LE.out⟩
        | some xg =>
          have hmk := fun w => make34 gn SM.out.2.2.2.1.1 w
          have hn : gn ≤ 1048576 := SM.out.2.2.2.1.1
          go_wp2
          go_loopw [9] (fun i wr => ∃ k : Nat, k ≤ gn ∧ i = .int .i64 k ∧ Hid (St13 w #[.slice pa pn pc, .slice (some xr) rn rc, .slice none un uc, .slice (some xg) gn gc, .slice xa xn xc, .slice ya yn yc] ((nil6.setIfInBounds 0 (.slice p'.a p'.n p'.c)).setIfInBounds 1 (.slice (some ⟨ws.heap.size, 0, none⟩) rn rn)) wr) ∧ Hid (Ow wr wtr.heap.size 86 (gn * 6)) ∧ Hid (FstX 6 (GG G) wr wtr.heap.size k gv G.c) ∧ Hid (Kp (w.heap.size + 1 + 1 + 1) wtr wr)) (fun i _ => gn - (intOf i).toNat)
          case atStart => exact ⟨0, Nat.zero_le _, rfl, ST.out.next ((Below.refl _ _).alloc (Nat.le_refl _) _), ow_made wtr _ _ _, fstX_nil _ _ _ _ _ _, (Kp.refl _ _).below ((Below.refl _ _).alloc (Nat.le_refl _) _) (Nat.le_refl _)⟩
          case round =>
            clear hmk q3
            obtain ⟨k, hk, rfl, SZ, OW, FI, KP⟩ := hrel
            have q3 : wr.cell? ⟨w.heap.size, 3, none⟩ = some (.slice (some xg) gn gc) := SZ.out.box.cell 3 _ rfl
            by_cases hlt : k < gn
            · skip
              rcases HS0.out.2.2.2.1.below SZ.out.below (Nat.le_refl _) with h | ⟨b, of, ha, hc⟩
              · exact absurd h (by dsimp only; omega)
              obtain rfl : xg = ⟨b, of, none⟩ := by simpa using ha
              have VM := hid (SM.out.2.2.2.1.2 k hlt)
              have hgw : (w.heap.size + 1 + 1 + 1) ≤ wtr.heap.size := ST.out.size
              obtain ⟨f0, f1, f2, f3, f4, f5, fw⟩ := hc k hlt
              have hbw : b < w.heap.size := by
                rcases HS0.out.2.2.2.1 with h | ⟨b2, o2, ha2, hc2⟩
                · exact absurd h (by dsimp only; omega)
                · have h2 := World.block_lt_of_cell? w _ (hc2 k hlt).1
                  have h3 : b = b2 := by simpa using congrArg (Option.map Addr.block) ha2
                  rw [h3]; exact h2
              have NB : Hid (b ≠ wtr.heap.size) := by show b ≠ _; omega
              have NH : Hid (w.heap.size ≠ wtr.heap.size) := by show w.heap.size ≠ _; omega
              have i0 : (0 : Int) ≤ (k : Int) := by omega
              have i1 : (k : Int) < (gn : Int) := by omega
              obtain ⟨w2x, hw2x⟩ : ∃ wn, wr.alloc (Obj.cells #[.int .i64 (G.l0 k), .string (G.t1 k), .int .i64 (G.l1 k), .slice (gv k).a (gv k).n (gv k).c, .string (G.t2 k), .int .i64 (G.l2 k)] 72) = wn := ⟨_, rfl⟩
              have bx : Below wr.heap.size wr w2x := by rw [← hw2x]; exact (Below.refl _ _).alloc (Nat.le_refl _) _
              have hq : Blk w2x wr.heap.size 72 #[.int .i64 (G.l0 k), .string (G.t1 k), .int .i64 (G.l1 k), .slice (gv k).a (gv k).n (gv k).c, .string (G.t2 k), .int .i64 (G.l2 k)] := by rw [← hw2x]; exact blk_new wr 72 _
              have d0 : w2x.cell? ⟨wr.heap.size, 0, none⟩ = some (.int .i64 (G.l0 k)) := hq.cell 0 _ rfl
              have d1 : w2x.cell? ⟨wr.heap.size, 1, none⟩ = some (.string (G.t1 k)) := hq.cell 1 _ rfl
              have d2 : w2x.cell? ⟨wr.heap.size, 2, none⟩ = some (.int .i64 (G.l1 k)) := hq.cell 2 _ rfl
              have d3 : w2x.cell? ⟨wr.heap.size, 3, none⟩ = some (.slice (gv k).a (gv k).n (gv k).c) := hq.cell 3 _ rfl
              have d4 : w2x.cell? ⟨wr.heap.size, 4, none⟩ = some (.string (G.t2 k)) := hq.cell 4 _ rfl
              have d5 : w2x.cell? ⟨wr.heap.size, 5, none⟩ = some (.int .i64 (G.l2 k)) := hq.cell 5 _ rfl
              have FW := hid (Words.next bx fw)
              have HW2 := hid hw2x
              have BX := hid bx
              have OW2 := hid (OW.out.below bx OW.out.lt)
              have NG : Hid (wr.heap.size ≠ wtr.heap.size) := Nat.ne_of_gt OW.out.lt
              clear hc fw ha hw2x bx hq
              go_wp2_with fail
              rw [HW2.out]
              go_region_held3 (fun w' => w'.cell? ⟨wr.heap.size, 0, none⟩ = some (.int .i64 (G.l0 k)) ∧ w'.cell? ⟨wr.heap.size, 1, none⟩ = some (.string (G.t1 k)) ∧ w'.cell? ⟨wr.heap.size, 2, none⟩ = some (.int .i64 (G.l1 k)) ∧ w'.cell? ⟨wr.heap.size, 3, none⟩ = some (.slice (gv k).a (gv k).n (gv k).c) ∧ w'.cell? ⟨wr.heap.size, 4, none⟩ = some (.string (G.t2 k)) ∧ w'.cell? ⟨wr.heap.size, 5, none⟩ = some (.int .i64 (G.l2 k)))
                (first
                  | with_reducible exact ⟨cellDrew d0, cellDrew d1, cellDrew d2, cellDrew d3, cellDrew d4, cellDrew d5⟩
                  | (go_split_ands
                     refine ⟨?_, ?_, ?_, ?_, ?_, ?_⟩
                     · first | with_reducible exact cellKeep hb5 (by assumption) | with_reducible exact cellKeep hb4 (by assumption) | with_reducible exact cellKeep hb3 (by assumption) | with_reducible exact Wrote.cellFar wr6.out (by assumption) NG.out
                     · first | with_reducible exact cellKeep hb5 (by assumption) | with_reducible exact cellKeep hb4 (by assumption) | with_reducible exact cellKeep hb3 (by assumption) | with_reducible exact Wrote.cellFar wr6.out (by assumption) NG.out
                     · first | with_reducible exact cellKeep hb5 (by assumption) | with_reducible exact cellKeep hb4 (by assumption) | with_reducible exact cellKeep hb3 (by assumption) | with_reducible exact Wrote.cellFar wr6.out (by assumption) NG.out
                     · first | with_reducible exact cellKeep hb5 (by assumption) | with_reducible exact cellKeep hb4 (by assumption) | with_reducible exact cellKeep hb3 (by assumption) | with_reducible exact Wrote.cellFar wr6.out (by assumption) NG.out
                     · first | with_reducible exact cellKeep hb5 (by assumption) | with_reducible exact cellKeep hb4 (by assumption) | with_reducible exact cellKeep hb3 (by assumption) | with_reducible exact Wrote.cellFar wr6.out (by assumption) NG.out
                     · first | with_reducible exact cellKeep hb5 (by assumption) | with_reducible exact cellKeep hb4 (by assumption) | with_reducible exact cellKeep hb3 (by assumption) | with_reducible exact Wrote.cellFar wr6.out (by assumption) NG.out)
                  | fail)
                (first
                  | (go_at_call_of 39 (G.t1 k); refine (w39 _ _ _).mono ?_; rintro e w3 ⟨rfl, hb3⟩)
                  | (go_at_call_of 39 (G.t2 k); refine (w39 _ _ _).mono ?_; rintro e w5 ⟨rfl, hb5⟩
                     have ow5 := ((Ow.below (w := w2x.drew) OW2.out hb3 OW2.out.lt).below hb4 (Nat.lt_of_lt_of_le OW2.out.lt hb3.size)).below hb5 (Nat.lt_of_lt_of_le OW2.out.lt (Nat.le_trans hb3.size hb4.size))
                     obtain ⟨x1, x2, x3, x4, x5, w6, y0, y1, y2, y3, y4, y5, e1, e2, e3, e4, e5, e6, c0, z0, c1, z1, c2, z2, c3, z3, c4, z4, c5, z5, wr6, ow6, b6⟩ := store6 (o := k * 6) (.int .i64 (G.l0 k)) (.string (G.t1 k)) (.int .i64 (G.l1 k)) (.slice s'.a s'.n s'.c) (.string (G.t2 k)) (.int .i64 (G.l2 k)) ow5 (by omega)
                     replace ow5 := hid ow5)
                  | (go_at_call 38; refine (w38 (gv k) (G.c k) _ (Words.next hb3 FW.out) VM.out).mono ?_; rintro e w4 ⟨s', rfl, hl4, hw4, hb4, hfr4⟩; replace hl4 := hid hl4; replace hw4 := hid hw4; replace hfr4 := hid hfr4))
              have h2 := BX.out.size
              have h3 : w2x.heap.size ≤ w3.heap.size := hb3.size
              have h4 := hb4.size
              have hgl := OW.out.lt
              have b25 : Below w2x.heap.size w2x w5 := ((Below.refl w2x.heap.size w2x).drew.trans hb3).trans ((hb4.trans (hb5.mono h4)).mono h3)
              have b35 : Below wr.heap.size wr w5 := BX.out.trans (b25.mono h2)
              have FI6 : Hid (FstX 6 (GG G) w6 wtr.heap.size (k + 1) gv G.c) := fstX_snoc (fun _ _ => rfl) (FI.out.below b35 (Nat.le_refl _)) wr6.out hl4.out (hw4.out.below hb5 (Nat.le_refl _)) (fun b hb => by have := hfr4.out b hb; omega)
              have SZ6 : Hid (St13 w #[.slice pa pn pc, .slice (some xr) rn rc, .slice none un uc, .slice (some ⟨b, of, none⟩) gn gc, .slice xa xn xc, .slice ya yn yc] ((nil6.setIfInBounds 0 (.slice p'.a p'.n p'.c)).setIfInBounds 1 (.slice (some ⟨ws.heap.size, 0, none⟩) rn rn)) w6) := (SZ.out.next b35).wrote wr6.out b6.out (by omega)
              have KP6 : Hid (Kp (w.heap.size + 1 + 1 + 1) wtr w6) := (KP.out.below b35 (Nat.le_refl _)).wrote wr6.out (b6.out 0 (Nat.zero_le _)).size (Nat.le_refl _)
              clear hb3 hb4 hb5 b35 b25 h2 h3 h4 hgl e1 e2 e3 e4 e5 e6 c0 z0 c1 z1 c2 z2 c3 z3 c4 z4 c5 z5 wr6 b6 hl4 hw4 hfr4 ow5 OW OW2 FI SZ KP
              go_wp2
              go_roundw
              case rel => exact ⟨k + 1, by omega, by go_num, SZ6, ow6, FI6, KP6⟩
              case measure => simp [intOf]; omega
            obtain rfl : gn = k := by omega
            obtain ⟨gv', e1, e2, e3⟩ := fstX_grants (c := gn) FI.out
            have E1 := hid e1
            have Vg := hid e2
            have hgw : (w.heap.size + 1 + 1 + 1) ≤ wtr.heap.size := ST.out.size
            have RH : Hid (RHi (w.heap.size + 1 + 1 + 1) ⟨some ⟨wtr.heap.size, 0, none⟩, gn, gn⟩ gv') := ⟨fun b hb => by cases hb; exact hgw, fun i hi b hb => by have := e3 i hi b hb; omega⟩
            obtain ⟨wtg, hwtg⟩ : ∃ wn, wr.setCell ⟨w.heap.size + 1 + 1, 3, none⟩ (.slice (some ⟨wtr.heap.size, 0, none⟩) gn gn) = wn := ⟨_, rfl⟩
            have cj : wr.cell? ⟨w.heap.size + 1 + 1, 3, none⟩ = some (.slice none 0 0) := SZ.out.out.cell 3 _ rfl
            have zj : wr.frozen? ⟨w.heap.size + 1 + 1, 3, none⟩ = false := SZ.out.out.frozen 3
            have ST2 : Hid (St13 w #[.slice pa pn pc, .slice (some xr) rn rc, .slice none un uc, .slice (some xg) gn gc, .slice xa xn xc, .slice ya yn yc] (((nil6.setIfInBounds 0 (.slice p'.a p'.n p'.c)).setIfInBounds 1 (.slice (some ⟨ws.heap.size, 0, none⟩) rn rn)).setIfInBounds 3 (.slice (some ⟨wtr.heap.size, 0, none⟩) gn gn)) wtg) := hwtg ▸ SZ.out.set 3 _
            have kp2 : Kp (w.heap.size + 1 + 1 + 1) wr wtg := hwtg ▸ (Kp.refl (w.heap.size + 1 + 1 + 1) wr).set ⟨w.heap.size + 1 + 1, 3, none⟩ _ (Or.inl (by show w.heap.size + 1 + 1 < (w.heap.size + 1 + 1 + 1); omega))
            have ALL2 : Hid (∀ wj, Kp (w.heap.size + 1 + 1 + 1) wtg wj → (((Words wj p' P) ∧ Roles wj ⟨some ⟨ws.heap.size, 0, none⟩, rn, rn⟩ rv' R) ∧ Roles wj ⟨none, 0, 0⟩ uv U) ∧ Grants wj ⟨some ⟨wtr.heap.size, 0, none⟩, gn, gn⟩ gv' G) := fun wj h => ⟨ALL.out wj ((KP.out.trans kp2).trans h), E1.out.kp RH.out (kp2.trans h)⟩
            clear e1 e2 e3 E1 RH kp2 SZ OW FI KP ST ALL hgw hlt hk
            have ST := ST2
            have ALL := ALL2
            clear ST2 ALL2
            have q4 : wtg.cell? ⟨w.heap.size, 4, none⟩ = some (.slice xa xn xc) := ST.out.box.cell 4 _ rfl
            go_wp2_with fail
            refine (w40 ⟨xa, xn, xc⟩ xv X wtg (HS0.out.2.2.2.2.1.below ST.out.below (Nat.le_refl _)) SM.out.2.2.2.2.1).mono ?_
            rintro e w7 ⟨x', xv', rfl, g1, g2, g3, hb, hf1, hf2⟩
            have xG := hid g1
            have XN := hid g2
            have XV := hid g3
            have XB := hid hb
            have XH : Hid (RHi (w.heap.size + 1 + 1 + 1) x' xv') := ⟨fun b hb => Nat.le_trans ST.out.size (hf1 b hb), fun i hi b hb => Nat.le_trans ST.out.size (hf2 i (by rw [← g2]; exact hi) b hb)⟩
            replace ST := hid (ST.out.next hb)
            clear g1 g2 g3 hf1 hf2 hb
            obtain ⟨w8, hw8⟩ : ∃ wn, w7.setCell ⟨w.heap.size + 1 + 1, 4, none⟩ (.slice x'.a x'.n x'.c) = wn := ⟨_, rfl⟩
            have c4 : w7.cell? ⟨w.heap.size + 1 + 1, 4, none⟩ = some (.slice none 0 0) := ST.out.out.cell 4 _ rfl
            have z4 : w7.frozen? ⟨w.heap.size + 1 + 1, 4, none⟩ = false := ST.out.out.frozen 4
            have ST2 : Hid (St13 w #[.slice pa pn pc, .slice (some xr) rn rc, .slice none un uc, .slice (some xg) gn gc, .slice xa xn xc, .slice ya yn yc] ((((nil6.setIfInBounds 0 (.slice p'.a p'.n p'.c)).setIfInBounds 1 (.slice (some ⟨ws.heap.size, 0, none⟩) rn rn)).setIfInBounds 3 (.slice (some ⟨wtr.heap.size, 0, none⟩) gn gn)).setIfInBounds 4 (.slice x'.a x'.n x'.c)) w8) := hw8 ▸ ST.out.set 4 _
            have kp2 : Kp (w.heap.size + 1 + 1 + 1) w7 w8 := hw8 ▸ (Kp.refl (w.heap.size + 1 + 1 + 1) w7).set ⟨w.heap.size + 1 + 1, 4, none⟩ _ (Or.inl (by show w.heap.size + 1 + 1 < (w.heap.size + 1 + 1 + 1); omega))
            have ALL2 : Hid (∀ wj, Kp (w.heap.size + 1 + 1 + 1) w8 wj → ((((Words wj p' P) ∧ Roles wj ⟨some ⟨ws.heap.size, 0, none⟩, rn, rn⟩ rv' R) ∧ Roles wj ⟨none, 0, 0⟩ uv U) ∧ Grants wj ⟨some ⟨wtr.heap.size, 0, none⟩, gn, gn⟩ gv' G) ∧ Grants wj x' xv' X) := fun wj h => ⟨ALL.out wj (((Kp.refl (w.heap.size + 1 + 1 + 1) wtg).below XB.out (Nat.le_refl _)).trans (kp2.trans h)), xG.out.kp XH.out (kp2.trans h)⟩
            clear q4 xG XB XH kp2 ST ALL
            have ST := ST2
            have ALL := ALL2
            clear ST2 ALL2
            have q5 : w8.cell? ⟨w.heap.size, 5, none⟩ = some (.slice ya yn yc) := ST.out.box.cell 5 _ rfl
            go_wp2_with fail
            refine (w40 ⟨ya, yn, yc⟩ yv Y w8 (HS0.out.2.2.2.2.2.below ST.out.below (Nat.le_refl _)) SM.out.2.2.2.2.2).mono ?_
            rintro e w9 ⟨y', yv', rfl, g1, g2, g3, hb, hf1, hf2⟩
            have yG := hid g1
            have YN := hid g2
            have YV := hid g3
            have YB := hid hb
            have YH : Hid (RHi (w.heap.size + 1 + 1 + 1) y' yv') := ⟨fun b hb => Nat.le_trans ST.out.size (hf1 b hb), fun i hi b hb => Nat.le_trans ST.out.size (hf2 i (by rw [← g2]; exact hi) b hb)⟩
            replace ST := hid (ST.out.next hb)
            clear g1 g2 g3 hf1 hf2 hb
            obtain ⟨w10, hw10⟩ : ∃ wn, w9.setCell ⟨w.heap.size + 1 + 1, 5, none⟩ (.slice y'.a y'.n y'.c) = wn := ⟨_, rfl⟩
            have c5 : w9.cell? ⟨w.heap.size + 1 + 1, 5, none⟩ = some (.slice none 0 0) := ST.out.out.cell 5 _ rfl
            have z5 : w9.frozen? ⟨w.heap.size + 1 + 1, 5, none⟩ = false := ST.out.out.frozen 5
            have ST2 : Hid (St13 w #[.slice pa pn pc, .slice (some xr) rn rc, .slice none un uc, .slice (some xg) gn gc, .slice xa xn xc, .slice ya yn yc] (((((nil6.setIfInBounds 0 (.slice p'.a p'.n p'.c)).setIfInBounds 1 (.slice (some ⟨ws.heap.size, 0, none⟩) rn rn)).setIfInBounds 3 (.slice (some ⟨wtr.heap.size, 0, none⟩) gn gn)).setIfInBounds 4 (.slice x'.a x'.n x'.c)).setIfInBounds 5 (.slice y'.a y'.n y'.c)) w10) := hw10 ▸ ST.out.set 5 _
            have kp2 : Kp (w.heap.size + 1 + 1 + 1) w9 w10 := hw10 ▸ (Kp.refl (w.heap.size + 1 + 1 + 1) w9).set ⟨w.heap.size + 1 + 1, 5, none⟩ _ (Or.inl (by show w.heap.size + 1 + 1 < (w.heap.size + 1 + 1 + 1); omega))
            have ALL2 : Hid (∀ wj, Kp (w.heap.size + 1 + 1 + 1) w10 wj → (((((Words wj p' P) ∧ Roles wj ⟨some ⟨ws.heap.size, 0, none⟩, rn, rn⟩ rv' R) ∧ Roles wj ⟨none, 0, 0⟩ uv U) ∧ Grants wj ⟨some ⟨wtr.heap.size, 0, none⟩, gn, gn⟩ gv' G) ∧ Grants wj x' xv' X) ∧ Grants wj y' yv' Y) := fun wj h => ⟨ALL.out wj (((Kp.refl (w.heap.size + 1 + 1 + 1) w8).below YB.out (Nat.le_refl _)).trans (kp2.trans h)), yG.out.kp YH.out (kp2.trans h)⟩
            clear q5 yG YB YH kp2 ST ALL
            have ST := ST2
            have ALL := ALL2
            clear ST2 ALL2
            have r0 : w10.cell? ⟨w.heap.size + 1 + 1, 0, none⟩ = some (.slice p'.a p'.n p'.c) := ST.out.out.cell 0 _ rfl
            have r1 : w10.cell? ⟨w.heap.size + 1 + 1, 1, none⟩ = some (.slice (some ⟨ws.heap.size, 0, none⟩) rn rn) := ST.out.out.cell 1 _ rfl
            have r2 : w10.cell? ⟨w.heap.size + 1 + 1, 2, none⟩ = some (.slice none 0 0) := ST.out.out.cell 2 _ rfl
            have r3 : w10.cell? ⟨w.heap.size + 1 + 1, 3, none⟩ = some (.slice (some ⟨wtr.heap.size, 0, none⟩) gn gn) := ST.out.out.cell 3 _ rfl
            have r4 : w10.cell? ⟨w.heap.size + 1 + 1, 4, none⟩ = some (.slice x'.a x'.n x'.c) := ST.out.out.cell 4 _ rfl
            have r5 : w10.cell? ⟨w.heap.size + 1 + 1, 5, none⟩ = some (.slice y'.a y'.n y'.c) := ST.out.out.cell 5 _ rfl
            obtain ⟨x1, x2, x3, x4, x5, x6, e1, e2, e3, e4, e5, e6, k0, y0, k1, y1, k2, y2, k3, y3, k4, y4, k5, y5, t0, t1, t2, t3, t4, t5, KE, BE⟩ := storeRes ST.out.res (.slice p'.a p'.n p'.c) (.slice (some ⟨ws.heap.size, 0, none⟩) rn rn) (.slice none 0 0) (.slice (some ⟨wtr.heap.size, 0, none⟩) gn gn) (.slice x'.a x'.n x'.c) (.slice y'.a y'.n y'.c)
            have LE : Hid (Below w.heap.size w x6) := ST.out.below.trans (BE.out _ (Nat.le_succ _))
            have AE := hid (ALL.out x6 (KE.out (w.heap.size + 1 + 1 + 1) (by omega)))
            clear ST ALL KE BE
            go_wp2_with fail
            refine bodyPost_ret (v := .agg #[.slice p'.a p'.n p'.c, .slice (some ⟨ws.heap.size, 0, none⟩) rn rn, .slice none 0 0, .slice (some ⟨wtr.heap.size, 0, none⟩) gn gn, .slice x'.a x'.n x'.c, .slice y'.a y'.n y'.c]) (by simp [results, Try.results13, go_sem, t0, t1, t2, t3, t4, t5]) rfl ?_
            obtain ⟨⟨⟨⟨⟨a1, a2⟩, a3⟩, a4⟩, a5⟩, a6⟩ := AE.out
            exact ⟨⟨p', P, ⟨some ⟨ws.heap.size, 0, none⟩, rn, rn⟩, rv', R, ⟨none, 0, 0⟩, uv, U, ⟨some ⟨wtr.heap.size, 0, none⟩, gn, gn⟩, gv', G, x', xv', X, y', yv', Y⟩, rfl, ⟨a1, a2, a3, a4, a5, a6⟩, ⟨PL.out, rfl, rfl, Vr.out, rfl, hu0.out.symm, fun i hi => rfl, rfl, rfl, Vg.out, rfl, XN.out, XV.out, rfl, YN.out, YV.out, rfl⟩, LE.out⟩
      | some xu =>
        have hmk := fun w => make33 un SM.out.2.2.1.1 w
        have hn : un ≤ 1048576 := SM.out.2.2.1.1
        go_wp2
        go_loopw [7] (fun i wr => ∃ k : Nat, k ≤ un ∧ i = .int .i64 k ∧ Hid (St13 w #[.slice pa pn pc, .slice (some xr) rn rc, .slice (some xu) un uc, .slice ga gn gc, .slice xa xn xc, .slice ya yn yc] ((nil6.setIfInBounds 0 (.slice p'.a p'.n p'.c)).setIfInBounds 1 (.slice (some ⟨ws.heap.size, 0, none⟩) rn rn)) wr) ∧ Hid (Ow wr wtr.heap.size 84 (un * 3)) ∧ Hid (FstX 3 (GR U) wr wtr.heap.size k uv U.c) ∧ Hid (Kp (w.heap.size + 1 + 1 + 1) wtr wr)) (fun i _ => un - (intOf i).toNat)
        case atStart => exact ⟨0, Nat.zero_le _, rfl, ST.out.next ((Below.refl _ _).alloc (Nat.le_refl _) _), ow_made wtr _ _ _, fstX_nil _ _ _ _ _ _, (Kp.refl _ _).below ((Below.refl _ _).alloc (Nat.le_refl _) _) (Nat.le_refl _)⟩
        case round =>
          clear hmk q2
          obtain ⟨k, hk, rfl, SZ, OW, FI, KP⟩ := hrel
          have q2 : wr.cell? ⟨w.heap.size, 2, none⟩ = some (.slice (some xu) un uc) := SZ.out.box.cell 2 _ rfl
          by_cases hlt : k < un
          · skip
            rcases HS0.out.2.2.1.below SZ.out.below (Nat.le_refl _) with h | ⟨b, of, ha, hc⟩
            · exact absurd h (by dsimp only; omega)
            obtain rfl : xu = ⟨b, of, none⟩ := by simpa using ha
            have VM := hid (SM.out.2.2.1.2 k hlt)
            have hgw : (w.heap.size + 1 + 1 + 1) ≤ wtr.heap.size := ST.out.size
            obtain ⟨f0, f1, f2, fw⟩ := hc k hlt
            have hbw : b < w.heap.size := by
              rcases HS0.out.2.2.1 with h | ⟨b2, o2, ha2, hc2⟩
              · exact absurd h (by dsimp only; omega)
              · have h2 := World.block_lt_of_cell? w _ (hc2 k hlt).1
                have h3 : b = b2 := by simpa using congrArg (Option.map Addr.block) ha2
                rw [h3]; exact h2
            have NB : Hid (b ≠ wtr.heap.size) := by show b ≠ _; omega
            have NH : Hid (w.heap.size ≠ wtr.heap.size) := by show w.heap.size ≠ _; omega
            have i0 : (0 : Int) ≤ (k : Int) := by omega
            have i1 : (k : Int) < (un : Int) := by omega
            have FW := hid fw
            clear hc fw ha
            go_wp2_with fail
            go_region_held3 (fun w' => w'.cell? ⟨w.heap.size, 2, none⟩ = some (.slice (some ⟨b, of, none⟩) un uc) ∧ w'.cell? ⟨b, of + k * 3, none⟩ = some (.string (U.t k)) ∧ w'.cell? ⟨b, of + k * 3 + 1, none⟩ = some (.int .i64 (U.l k)) ∧ w'.cell? ⟨b, of + k * 3 + 2, none⟩ = some (.slice (uv k).a (uv k).n (uv k).c))
              (first
                | with_reducible exact ⟨cellDrew q2, cellDrew f0, cellDrew f1, cellDrew f2⟩
                | (go_split_ands
                   refine ⟨?_, ?_, ?_, ?_⟩
                   · first | with_reducible exact cellKeep hb4 (by assumption) | with_reducible exact cellKeep hb3 (by assumption) | with_reducible exact Wrote.cellFar wr6.out (by assumption) NH.out
                   · first | with_reducible exact cellKeep hb4 (by assumption) | with_reducible exact cellKeep hb3 (by assumption) | with_reducible exact Wrote.cellFar wr6.out (by assumption) NB.out
                   · first | with_reducible exact cellKeep hb4 (by assumption) | with_reducible exact cellKeep hb3 (by assumption) | with_reducible exact Wrote.cellFar wr6.out (by assumption) NB.out
                   · first | with_reducible exact cellKeep hb4 (by assumption) | with_reducible exact cellKeep hb3 (by assumption) | with_reducible exact Wrote.cellFar wr6.out (by assumption) NB.out)
                | fail)
              (first
                | (go_at_call 39; refine (w39 _ _ _).mono ?_; rintro e w3 ⟨rfl, hb3⟩)
                | (go_at_call 38; refine (w38 (uv k) (U.c k) _ (Words.next hb3 FW.out) VM.out).mono ?_; rintro e w4 ⟨s', rfl, hl4, hw4, hb4, hfr4⟩; replace hl4 := hid hl4; replace hw4 := hid hw4; replace hfr4 := hid hfr4
                   have ow5 := (Ow.below (w := wr.drew) OW.out hb3 OW.out.lt).below hb4 (Nat.lt_of_lt_of_le OW.out.lt hb3.size)
                   obtain ⟨x1, x2, w6, y0, y1, y2, e1, e2, e3, c0, z0, c1, z1, c2, z2, wr6, ow6, b6⟩ := store3 (o := k * 3) (.string (U.t k)) (.int .i64 (U.l k)) (.slice s'.a s'.n s'.c) ow5 (by omega)
                   replace ow5 := hid ow5))
            have h3 : wr.heap.size ≤ w3.heap.size := hb3.size
            have hgl := OW.out.lt
            have b35 : Below wr.heap.size wr w4 := ((Below.refl wr.heap.size wr).drew.trans hb3).trans (hb4.mono h3)
            have FI6 : Hid (FstX 3 (GR U) w6 wtr.heap.size (k + 1) uv U.c) := fstX_snoc (fun _ _ => rfl) (FI.out.below b35 (Nat.le_refl _)) wr6.out hl4.out hw4.out (fun b hb => by have := hfr4.out b hb; omega)
            have SZ6 : Hid (St13 w #[.slice pa pn pc, .slice (some xr) rn rc, .slice (some ⟨b, of, none⟩) un uc, .slice ga gn gc, .slice xa xn xc, .slice ya yn yc] ((nil6.setIfInBounds 0 (.slice p'.a p'.n p'.c)).setIfInBounds 1 (.slice (some ⟨ws.heap.size, 0, none⟩) rn rn)) w6) := (SZ.out.next b35).wrote wr6.out b6.out (by omega)
            have KP6 : Hid (Kp (w.heap.size + 1 + 1 + 1) wtr w6) := (KP.out.below b35 (Nat.le_refl _)).wrote wr6.out (b6.out 0 (Nat.zero_le _)).size (Nat.le_refl _)
            clear hb3 hb4 b35 h3 hgl e1 e2 e3 c0 z0 c1 z1 c2 z2 wr6 b6 hl4 hw4 hfr4 ow5 OW FI SZ KP
            go_wp2
            go_roundw
            case rel => exact ⟨k + 1, by omega, by go_num, SZ6, ow6, FI6, KP6⟩
            case measure => simp [intOf]; omega
          obtain rfl : un = k := by omega
          obtain ⟨uv', e1, e2, e3⟩ := fstX_roles (c := un) FI.out
          have E1 := hid e1
          have Vu := hid e2
          have hgw : (w.heap.size + 1 + 1 + 1) ≤ wtr.heap.size := ST.out.size
          have RH : Hid (RHi (w.heap.size + 1 + 1 + 1) ⟨some ⟨wtr.heap.size, 0, none⟩, un, un⟩ uv') := ⟨fun b hb => by cases hb; exact hgw, fun i hi b hb => by have := e3 i hi b hb; omega⟩
          obtain ⟨wtu, hwtu⟩ : ∃ wn, wr.setCell ⟨w.heap.size + 1 + 1, 2, none⟩ (.slice (some ⟨wtr.heap.size, 0, none⟩) un un) = wn := ⟨_, rfl⟩
          have cj : wr.cell? ⟨w.heap.size + 1 + 1, 2, none⟩ = some (.slice none 0 0) := SZ.out.out.cell 2 _ rfl
          have zj : wr.frozen? ⟨w.heap.size + 1 + 1, 2, none⟩ = false := SZ.out.out.frozen 2
          have ST2 : Hid (St13 w #[.slice pa pn pc, .slice (some xr) rn rc, .slice (some xu) un uc, .slice ga gn gc, .slice xa xn xc, .slice ya yn yc] (((nil6.setIfInBounds 0 (.slice p'.a p'.n p'.c)).setIfInBounds 1 (.slice (some ⟨ws.heap.size, 0, none⟩) rn rn)).setIfInBounds 2 (.slice (some ⟨wtr.heap.size, 0, none⟩) un un)) wtu) := hwtu ▸ SZ.out.set 2 _
          have kp2 : Kp (w.heap.size + 1 + 1 + 1) wr wtu := hwtu ▸ (Kp.refl (w.heap.size + 1 + 1 + 1) wr).set ⟨w.heap.size + 1 + 1, 2, none⟩ _ (Or.inl (by show w.heap.size + 1 + 1 < (w.heap.size + 1 + 1 + 1); omega))
          have ALL2 : Hid (∀ wj, Kp (w.heap.size + 1 + 1 + 1) wtu wj → ((Words wj p' P) ∧ Roles wj ⟨some ⟨ws.heap.size, 0, none⟩, rn, rn⟩ rv' R) ∧ Roles wj ⟨some ⟨wtr.heap.size, 0, none⟩, un, un⟩ uv' U) := fun wj h => ⟨ALL.out wj ((KP.out.trans kp2).trans h), E1.out.kp RH.out (kp2.trans h)⟩
          clear e1 e2 e3 E1 RH kp2 SZ OW FI KP ST ALL hgw hlt hk
          have ST := ST2
          have ALL := ALL2
          clear ST2 ALL2
          have q3 : wtu.cell? ⟨w.heap.size, 3, none⟩ = some (.slice ga gn gc) := ST.out.box.cell 3 _ rfl
          cases ga with
          | none =>
            have hg0 : Hid (gn = 0) := by
              rcases HS0.out.2.2.2.1 with h | ⟨b, of, ha, _⟩
              · exact h
              · cases ha
            have ALLn : Hid (∀ wj, Kp (w.heap.size + 1 + 1 + 1) wtu wj → (((Words wj p' P) ∧ Roles wj ⟨some ⟨ws.heap.size, 0, none⟩, rn, rn⟩ rv' R) ∧ Roles wj ⟨some ⟨wtr.heap.size, 0, none⟩, un, un⟩ uv' U) ∧ Grants wj ⟨none, 0, 0⟩ gv G) := fun wj kp => ⟨ALL.out wj kp, Or.inl rfl⟩
            replace ALL := ALLn
            clear ALLn
            have q4 : wtu.cell? ⟨w.heap.size, 4, none⟩ = some (.slice xa xn xc) := ST.out.box.cell 4 _ rfl
            go_wp2_with fail
            refine (w40 ⟨xa, xn, xc⟩ xv X wtu (HS0.out.2.2.2.2.1.below ST.out.below (Nat.le_refl _)) SM.out.2.2.2.2.1).mono ?_
            rintro e w7 ⟨x', xv', rfl, g1, g2, g3, hb, hf1, hf2⟩
            have xG := hid g1
            have XN := hid g2
            have XV := hid g3
            have XB := hid hb
            have XH : Hid (RHi (w.heap.size + 1 + 1 + 1) x' xv') := ⟨fun b hb => Nat.le_trans ST.out.size (hf1 b hb), fun i hi b hb => Nat.le_trans ST.out.size (hf2 i (by rw [← g2]; exact hi) b hb)⟩
            replace ST := hid (ST.out.next hb)
            clear g1 g2 g3 hf1 hf2 hb
            obtain ⟨w8, hw8⟩ : ∃ wn, w7.setCell ⟨w.heap.size + 1 + 1, 4, none⟩ (.slice x'.a x'.n x'.c) = wn := ⟨_, rfl⟩
            have c4 : w7.cell? ⟨w.heap.size + 1 + 1, 4, none⟩ = some (.slice none 0 0) := ST.out.out.cell 4 _ rfl
            have z4 : w7.frozen? ⟨w.heap.size + 1 + 1, 4, none⟩ = false := ST.out.out.frozen 4
            have ST2 : Hid (St13 w #[.slice pa pn pc, .slice (some xr) rn rc, .slice (some xu) un uc, .slice none gn gc, .slice xa xn xc, .slice ya yn yc] ((((nil6.setIfInBounds 0 (.slice p'.a p'.n p'.c)).setIfInBounds 1 (.slice (some ⟨ws.heap.size, 0, none⟩) rn rn)).setIfInBounds 2 (.slice (some ⟨wtr.heap.size, 0, none⟩) un un)).setIfInBounds 4 (.slice x'.a x'.n x'.c)) w8) := hw8 ▸ ST.out.set 4 _
            have kp2 : Kp (w.heap.size + 1 + 1 + 1) w7 w8 := hw8 ▸ (Kp.refl (w.heap.size + 1 + 1 + 1) w7).set ⟨w.heap.size + 1 + 1, 4, none⟩ _ (Or.inl (by show w.heap.size + 1 + 1 < (w.heap.size + 1 + 1 + 1); omega))
            have ALL2 : Hid (∀ wj, Kp (w.heap.size + 1 + 1 + 1) w8 wj → ((((Words wj p' P) ∧ Roles wj ⟨some ⟨ws.heap.size, 0, none⟩, rn, rn⟩ rv' R) ∧ Roles wj ⟨some ⟨wtr.heap.size, 0, none⟩, un, un⟩ uv' U) ∧ Grants wj ⟨none, 0, 0⟩ gv G) ∧ Grants wj x' xv' X) := fun wj h => ⟨ALL.out wj (((Kp.refl (w.heap.size + 1 + 1 + 1) wtu).below XB.out (Nat.le_refl _)).trans (kp2.trans h)), xG.out.kp XH.out (kp2.trans h)⟩
            clear q4 xG XB XH kp2 ST ALL
            have ST := ST2
            have ALL := ALL2
            clear ST2 ALL2
            have q5 : w8.cell? ⟨w.heap.size, 5, none⟩ = some (.slice ya yn yc) := ST.out.box.cell 5 _ rfl
            go_wp2_with fail
            refine (w40 ⟨ya, yn, yc⟩ yv Y w8 (HS0.out.2.2.2.2.2.below ST.out.below (Nat.le_refl _)) SM.out.2.2.2.2.2).mono ?_
            rintro e w9 ⟨y', yv', rfl, g1, g2, g3, hb, hf1, hf2⟩
            have yG := hid g1
            have YN := hid g2
            have YV := hid g3
            have YB := hid hb
            have YH : Hid (RHi (w.heap.size + 1 + 1 + 1) y' yv') := ⟨fun b hb => Nat.le_trans ST.out.size (hf1 b hb), fun i hi b hb => Nat.le_trans ST.out.size (hf2 i (by rw [← g2]; exact hi) b hb)⟩
            replace ST := hid (ST.out.next hb)
            clear g1 g2 g3 hf1 hf2 hb
            obtain ⟨w10, hw10⟩ : ∃ wn, w9.setCell ⟨w.heap.size + 1 + 1, 5, none⟩ (.slice y'.a y'.n y'.c) = wn := ⟨_, rfl⟩
            have c5 : w9.cell? ⟨w.heap.size + 1 + 1, 5, none⟩ = some (.slice none 0 0) := ST.out.out.cell 5 _ rfl
            have z5 : w9.frozen? ⟨w.heap.size + 1 + 1, 5, none⟩ = false := ST.out.out.frozen 5
            have ST2 : Hid (St13 w #[.slice pa pn pc, .slice (some xr) rn rc, .slice (some xu) un uc, .slice none gn gc, .slice xa xn xc, .slice ya yn yc] (((((nil6.setIfInBounds 0 (.slice p'.a p'.n p'.c)).setIfInBounds 1 (.slice (some ⟨ws.heap.size, 0, none⟩) rn rn)).setIfInBounds 2 (.slice (some ⟨wtr.heap.size, 0, none⟩) un un)).setIfInBounds 4 (.slice x'.a x'.n x'.c)).setIfInBounds 5 (.slice y'.a y'.n y'.c)) w10) := hw10 ▸ ST.out.set 5 _
            have kp2 : Kp (w.heap.size + 1 + 1 + 1) w9 w10 := hw10 ▸ (Kp.refl (w.heap.size + 1 + 1 + 1) w9).set ⟨w.heap.size + 1 + 1, 5, none⟩ _ (Or.inl (by show w.heap.size + 1 + 1 < (w.heap.size + 1 + 1 + 1); omega))
            have ALL2 : Hid (∀ wj, Kp (w.heap.size + 1 + 1 + 1) w10 wj → (((((Words wj p' P) ∧ Roles wj ⟨some ⟨ws.heap.size, 0, none⟩, rn, rn⟩ rv' R) ∧ Roles wj ⟨some ⟨wtr.heap.size, 0, none⟩, un, un⟩ uv' U) ∧ Grants wj ⟨none, 0, 0⟩ gv G) ∧ Grants wj x' xv' X) ∧ Grants wj y' yv' Y) := fun wj h => ⟨ALL.out wj (((Kp.refl (w.heap.size + 1 + 1 + 1) w8).below YB.out (Nat.le_refl _)).trans (kp2.trans h)), yG.out.kp YH.out (kp2.trans h)⟩
            clear q5 yG YB YH kp2 ST ALL
            have ST := ST2
            have ALL := ALL2
            clear ST2 ALL2
            have r0 : w10.cell? ⟨w.heap.size + 1 + 1, 0, none⟩ = some (.slice p'.a p'.n p'.c) := ST.out.out.cell 0 _ rfl
            have r1 : w10.cell? ⟨w.heap.size + 1 + 1, 1, none⟩ = some (.slice (some ⟨ws.heap.size, 0, none⟩) rn rn) := ST.out.out.cell 1 _ rfl
            have r2 : w10.cell? ⟨w.heap.size + 1 + 1, 2, none⟩ = some (.slice (some ⟨wtr.heap.size, 0, none⟩) un un) := ST.out.out.cell 2 _ rfl
            have r3 : w10.cell? ⟨w.heap.size + 1 + 1, 3, none⟩ = some (.slice none 0 0) := ST.out.out.cell 3 _ rfl
            have r4 : w10.cell? ⟨w.heap.size + 1 + 1, 4, none⟩ = some (.slice x'.a x'.n x'.c) := ST.out.out.cell 4 _ rfl
            have r5 : w10.cell? ⟨w.heap.size + 1 + 1, 5, none⟩ = some (.slice y'.a y'.n y'.c) := ST.out.out.cell 5 _ rfl
            obtain ⟨x1, x2, x3, x4, x5, x6, e1, e2, e3, e4, e5, e6, k0, y0, k1, y1, k2, y2, k3, y3, k4, y4, k5, y5, t0, t1, t2, t3, t4, t5, KE, BE⟩ := storeRes ST.out.res (.slice p'.a p'.n p'.c) (.slice (some ⟨ws.heap.size, 0, none⟩) rn rn) (.slice (some ⟨wtr.heap.size, 0, none⟩) un un) (.slice none 0 0) (.slice x'.a x'.n x'.c) (.slice y'.a y'.n y'.c)
            have LE : Hid (Below w.heap.size w x6) := ST.out.below.trans (BE.out _ (Nat.le_succ _))
            have AE := hid (ALL.out x6 (KE.out (w.heap.size + 1 + 1 + 1) (by omega)))
            clear ST ALL KE BE
            go_wp2_with fail
            refine bodyPost_ret (v := .agg #[.slice p'.a p'.n p'.c, .slice (some ⟨ws.heap.size, 0, none⟩) rn rn, .slice (some ⟨wtr.heap.size, 0, none⟩) un un, .slice none 0 0, .slice x'.a x'.n x'.c, .slice y'.a y'.n y'.c]) (by simp [results, Try.results13, go_sem, t0, t1, t2, t3, t4, t5]) rfl ?_
            obtain ⟨⟨⟨⟨⟨a1, a2⟩, a3⟩, a4⟩, a5⟩, a6⟩ := AE.out
            exact ⟨⟨p', P, ⟨some ⟨ws.heap.size, 0, none⟩, rn, rn⟩, rv', R, ⟨some ⟨wtr.heap.size, 0, none⟩, un, un⟩, uv', U, ⟨none, 0, 0⟩, gv, G, x', xv', X, y', yv', Y⟩, rfl, ⟨a1, a2, a3, a4, a5, a6⟩, ⟨PL.out, rfl, rfl, Vr.out, rfl, rfl, Vu.out, rfl, hg0.out.symm, fun i hi => rfl, rfl, XN.out, XV.out, rfl, YN.out, YV.out, rfl⟩, LE.out⟩
          | some xg =>
            have hmk := fun w => make34 gn SM.out.2.2.2.1.1 w
            have hn : gn ≤ 1048576 := SM.out.2.2.2.1.1
            go_wp2
            go_loopw [9] (fun i wr => ∃ k : Nat, k ≤ gn ∧ i = .int .i64 k ∧ Hid (St13 w #[.slice pa pn pc, .slice (some xr) rn rc, .slice (some xu) un uc, .slice (some xg) gn gc, .slice xa xn xc, .slice ya yn yc] (((nil6.setIfInBounds 0 (.slice p'.a p'.n p'.c)).setIfInBounds 1 (.slice (some ⟨ws.heap.size, 0, none⟩) rn rn)).setIfInBounds 2 (.slice (some ⟨wtr.heap.size, 0, none⟩) un un)) wr) ∧ Hid (Ow wr wtu.heap.size 86 (gn * 6)) ∧ Hid (FstX 6 (GG G) wr wtu.heap.size k gv G.c) ∧ Hid (Kp (w.heap.size + 1 + 1 + 1) wtu wr)) (fun i _ => gn - (intOf i).toNat)
            case atStart => exact ⟨0, Nat.zero_le _, rfl, ST.out.next ((Below.refl _ _).alloc (Nat.le_refl _) _), ow_made wtu _ _ _, fstX_nil _ _ _ _ _ _, (Kp.refl _ _).below ((Below.refl _ _).alloc (Nat.le_refl _) _) (Nat.le_refl _)⟩
            case round =>
              clear hmk q3
              obtain ⟨k, hk, rfl, SZ, OW, FI, KP⟩ := hrel
              have q3 : wr.cell? ⟨w.heap.size, 3, none⟩ = some (.slice (some xg) gn gc) := SZ.out.box.cell 3 _ rfl
              by_cases hlt : k < gn
              · skip
                rcases HS0.out.2.2.2.1.below SZ.out.below (Nat.le_refl _) with h | ⟨b, of, ha, hc⟩
                · exact absurd h (by dsimp only; omega)
                obtain rfl : xg = ⟨b, of, none⟩ := by simpa using ha
                have VM := hid (SM.out.2.2.2.1.2 k hlt)
                have hgw : (w.heap.size + 1 + 1 + 1) ≤ wtu.heap.size := ST.out.size
                obtain ⟨f0, f1, f2, f3, f4, f5, fw⟩ := hc k hlt
                have hbw : b < w.heap.size := by
                  rcases HS0.out.2.2.2.1 with h | ⟨b2, o2, ha2, hc2⟩
                  · exact absurd h (by dsimp only; omega)
                  · have h2 := World.block_lt_of_cell? w _ (hc2 k hlt).1
                    have h3 : b = b2 := by simpa using congrArg (Option.map Addr.block) ha2
                    rw [h3]; exact h2
                have NB : Hid (b ≠ wtu.heap.size) := by show b ≠ _; omega
                have NH : Hid (w.heap.size ≠ wtu.heap.size) := by show w.heap.size ≠ _; omega
                have i0 : (0 : Int) ≤ (k : Int) := by omega
                have i1 : (k : Int) < (gn : Int) := by omega
                obtain ⟨w2x, hw2x⟩ : ∃ wn, wr.alloc (Obj.cells #[.int .i64 (G.l0 k), .string (G.t1 k), .int .i64 (G.l1 k), .slice (gv k).a (gv k).n (gv k).c, .string (G.t2 k), .int .i64 (G.l2 k)] 72) = wn := ⟨_, rfl⟩
                have bx : Below wr.heap.size wr w2x := by rw [← hw2x]; exact (Below.refl _ _).alloc (Nat.le_refl _) _
                have hq : Blk w2x wr.heap.size 72 #[.int .i64 (G.l0 k), .string (G.t1 k), .int .i64 (G.l1 k), .slice (gv k).a (gv k).n (gv k).c, .string (G.t2 k), .int .i64 (G.l2 k)] := by rw [← hw2x]; exact blk_new wr 72 _
                have d0 : w2x.cell? ⟨wr.heap.size, 0, none⟩ = some (.int .i64 (G.l0 k)) := hq.cell 0 _ rfl
                have d1 : w2x.cell? ⟨wr.heap.size, 1, none⟩ = some (.string (G.t1 k)) := hq.cell 1 _ rfl
                have d2 : w2x.cell? ⟨wr.heap.size, 2, none⟩ = some (.int .i64 (G.l1 k)) := hq.cell 2 _ rfl
                have d3 : w2x.cell? ⟨wr.heap.size, 3, none⟩ = some (.slice (gv k).a (gv k).n (gv k).c) := hq.cell 3 _ rfl
                have d4 : w2x.cell? ⟨wr.heap.size, 4, none⟩ = some (.string (G.t2 k)) := hq.cell 4 _ rfl
                have d5 : w2x.cell? ⟨wr.heap.size, 5, none⟩ = some (.int .i64 (G.l2 k)) := hq.cell 5 _ rfl
                have FW := hid (Words.next bx fw)
                have HW2 := hid hw2x
                have BX := hid bx
                have OW2 := hid (OW.out.below bx OW.out.lt)
                have NG : Hid (wr.heap.size ≠ wtu.heap.size) := Nat.ne_of_gt OW.out.lt
                clear hc fw ha hw2x bx hq
                go_wp2_with fail
                rw [HW2.out]
                go_region_held3 (fun w' => w'.cell? ⟨wr.heap.size, 0, none⟩ = some (.int .i64 (G.l0 k)) ∧ w'.cell? ⟨wr.heap.size, 1, none⟩ = some (.string (G.t1 k)) ∧ w'.cell? ⟨wr.heap.size, 2, none⟩ = some (.int .i64 (G.l1 k)) ∧ w'.cell? ⟨wr.heap.size, 3, none⟩ = some (.slice (gv k).a (gv k).n (gv k).c) ∧ w'.cell? ⟨wr.heap.size, 4, none⟩ = some (.string (G.t2 k)) ∧ w'.cell? ⟨wr.heap.size, 5, none⟩ = some (.int .i64 (G.l2 k)))
                  (first
                    | with_reducible exact ⟨cellDrew d0, cellDrew d1, cellDrew d2, cellDrew d3, cellDrew d4, cellDrew d5⟩
                    | (go_split_ands
                       refine ⟨?_, ?_, ?_, ?_, ?_, ?_⟩
                       · first | with_reducible exact cellKeep hb5 (by assumption) | with_reducible exact cellKeep hb4 (by assumption) | with_reducible exact cellKeep hb3 (by assumption) | with_reducible exact Wrote.cellFar wr6.out (by assumption) NG.out
                       · first | with_reducible exact cellKeep hb5 (by assumption) | with_reducible exact cellKeep hb4 (by assumption) | with_reducible exact cellKeep hb3 (by assumption) | with_reducible exact Wrote.cellFar wr6.out (by assumption) NG.out
                       · first | with_reducible exact cellKeep hb5 (by assumption) | with_reducible exact cellKeep hb4 (by assumption) | with_reducible exact cellKeep hb3 (by assumption) | with_reducible exact Wrote.cellFar wr6.out (by assumption) NG.out
                       · first | with_reducible exact cellKeep hb5 (by assumption) | with_reducible exact cellKeep hb4 (by assumption) | with_reducible exact cellKeep hb3 (by assumption) | with_reducible exact Wrote.cellFar wr6.out (by assumption) NG.out
                       · first | with_reducible exact cellKeep hb5 (by assumption) | with_reducible exact cellKeep hb4 (by assumption) | with_reducible exact cellKeep hb3 (by assumption) | with_reducible exact Wrote.cellFar wr6.out (by assumption) NG.out
                       · first | with_reducible exact cellKeep hb5 (by assumption) | with_reducible exact cellKeep hb4 (by assumption) | with_reducible exact cellKeep hb3 (by assumption) | with_reducible exact Wrote.cellFar wr6.out (by assumption) NG.out)
                    | fail)
                  (first
                    | (go_at_call_of 39 (G.t1 k); refine (w39 _ _ _).mono ?_; rintro e w3 ⟨rfl, hb3⟩)
                    | (go_at_call_of 39 (G.t2 k); refine (w39 _ _ _).mono ?_; rintro e w5 ⟨rfl, hb5⟩
                       have ow5 := ((Ow.below (w := w2x.drew) OW2.out hb3 OW2.out.lt).below hb4 (Nat.lt_of_lt_of_le OW2.out.lt hb3.size)).below hb5 (Nat.lt_of_lt_of_le OW2.out.lt (Nat.le_trans hb3.size hb4.size))
                       obtain ⟨x1, x2, x3, x4, x5, w6, y0, y1, y2, y3, y4, y5, e1, e2, e3, e4, e5, e6, c0, z0, c1, z1, c2, z2, c3, z3, c4, z4, c5, z5, wr6, ow6, b6⟩ := store6 (o := k * 6) (.int .i64 (G.l0 k)) (.string (G.t1 k)) (.int .i64 (G.l1 k)) (.slice s'.a s'.n s'.c) (.string (G.t2 k)) (.int .i64 (G.l2 k)) ow5 (by omega)
                       replace ow5 := hid ow5)
                    | (go_at_call 38; refine (w38 (gv k) (G.c k) _ (Words.next hb3 FW.out) VM.out).mono ?_; rintro e w4 ⟨s', rfl, hl4, hw4, hb4, hfr4⟩; replace hl4 := hid hl4; replace hw4 := hid hw4; replace hfr4 := hid hfr4))
                have h2 := BX.out.size
                have h3 : w2x.heap.size ≤ w3.heap.size := hb3.size
                have h4 := hb4.size
                have hgl := OW.out.lt
                have b25 : Below w2x.heap.size w2x w5 := ((Below.refl w2x.heap.size w2x).drew.trans hb3).trans ((hb4.trans (hb5.mono h4)).mono h3)
                have b35 : Below wr.heap.size wr w5 := BX.out.trans (b25.mono h2)
                have FI6 : Hid (FstX 6 (GG G) w6 wtu.heap.size (k + 1) gv G.c) := fstX_snoc (fun _ _ => rfl) (FI.out.below b35 (Nat.le_refl _)) wr6.out hl4.out (hw4.out.below hb5 (Nat.le_refl _)) (fun b hb => by have := hfr4.out b hb; omega)
                have SZ6 : Hid (St13 w #[.slice pa pn pc, .slice (some xr) rn rc, .slice (some xu) un uc, .slice (some ⟨b, of, none⟩) gn gc, .slice xa xn xc, .slice ya yn yc] (((nil6.setIfInBounds 0 (.slice p'.a p'.n p'.c)).setIfInBounds 1 (.slice (some ⟨ws.heap.size, 0, none⟩) rn rn)).setIfInBounds 2 (.slice (some ⟨wtr.heap.size, 0, none⟩) un un)) w6) := (SZ.out.next b35).wrote wr6.out b6.out (by omega)
                have KP6 : Hid (Kp (w.heap.size + 1 + 1 + 1) wtu w6) := (KP.out.below b35 (Nat.le_refl _)).wrote wr6.out (b6.out 0 (Nat.zero_le _)).size (Nat.le_refl _)
                clear hb3 hb4 hb5 b35 b25 h2 h3 h4 hgl e1 e2 e3 e4 e5 e6 c0 z0 c1 z1 c2 z2 c3 z3 c4 z4 c5 z5 wr6 b6 hl4 hw4 hfr4 ow5 OW OW2 FI SZ KP
                go_wp2
                go_roundw
                case rel => exact ⟨k + 1, by omega, by go_num, SZ6, ow6, FI6, KP6⟩
                case measure => simp [intOf]; omega
              obtain rfl : gn = k := by omega
              obtain ⟨gv', e1, e2, e3⟩ := fstX_grants (c := gn) FI.out
              have E1 := hid e1
              have Vg := hid e2
              have hgw : (w.heap.size + 1 + 1 + 1) ≤ wtu.heap.size := ST.out.size
              have RH : Hid (RHi (w.heap.size + 1 + 1 + 1) ⟨some ⟨wtu.heap.size, 0, none⟩, gn, gn⟩ gv') := ⟨fun b hb => by cases hb; exact hgw, fun i hi b hb => by have := e3 i hi b hb; omega⟩
              obtain ⟨wtg, hwtg⟩ : ∃ wn, wr.setCell ⟨w.heap.size + 1 + 1, 3, none⟩ (.slice (some ⟨wtu.heap.size, 0, none⟩) gn gn) = wn := ⟨_, rfl⟩
              have cj : wr.cell? ⟨w.heap.size + 1 + 1, 3, none⟩ = some (.slice none 0 0) := SZ.out.out.cell 3 _ rfl
              have zj : wr.frozen? ⟨w.heap.size + 1 + 1, 3, none⟩ = false := SZ.out.out.frozen 3
              have ST2 : Hid (St13 w #[.slice pa pn pc, .slice (some xr) rn rc, .slice (some xu) un uc, .slice (some xg) gn gc, .slice xa xn xc, .slice ya yn yc] ((((nil6.setIfInBounds 0 (.slice p'.a p'.n p'.c)).setIfInBounds 1 (.slice (some ⟨ws.heap.size, 0, none⟩) rn rn)).setIfInBounds 2 (.slice (some ⟨wtr.heap.size, 0, none⟩) un un)).setIfInBounds 3 (.slice (some ⟨wtu.heap.size, 0, none⟩) gn gn)) wtg) := hwtg ▸ SZ.out.set 3 _
              have kp2 : Kp (w.heap.size + 1 + 1 + 1) wr wtg := hwtg ▸ (Kp.refl (w.heap.size + 1 + 1 + 1) wr).set ⟨w.heap.size + 1 + 1, 3, none⟩ _ (Or.inl (by show w.heap.size + 1 + 1 < (w.heap.size + 1 + 1 + 1); omega))
              have ALL2 : Hid (∀ wj, Kp (w.heap.size + 1 + 1 + 1) wtg wj → (((Words wj p' P) ∧ Roles wj ⟨some ⟨ws.heap.size, 0, none⟩, rn, rn⟩ rv' R) ∧ Roles wj ⟨some ⟨wtr.heap.size, 0, none⟩, un, un⟩ uv' U) ∧ Grants wj ⟨some ⟨wtu.heap.size, 0, none⟩, gn, gn⟩ gv' G) := fun wj h => ⟨ALL.out wj ((KP.out.trans kp2).trans h), E1.out.kp RH.out (kp2.trans h)⟩
              clear e1 e2 e3 E1 RH kp2 SZ OW FI KP ST ALL hgw hlt hk
              have ST := ST2
              have ALL := ALL2
              clear ST2 ALL2
              have q4 : wtg.cell? ⟨w.heap.size, 4, none⟩ = some (.slice xa xn xc) := ST.out.box.cell 4 _ rfl
              go_wp2_with fail
              refine (w40 ⟨xa, xn, xc⟩ xv X wtg (HS0.out.2.2.2.2.1.below ST.out.below (Nat.le_refl _)) SM.out.2.2.2.2.1).mono ?_
              rintro e w7 ⟨x', xv', rfl, g1, g2, g3, hb, hf1, hf2⟩
              have xG := hid g1
              have XN := hid g2
              have XV := hid g3
              have XB := hid hb
              have XH : Hid (RHi (w.heap.size + 1 + 1 + 1) x' xv') := ⟨fun b hb => Nat.le_trans ST.out.size (hf1 b hb), fun i hi b hb => Nat.le_trans ST.out.size (hf2 i (by rw [← g2]; exact hi) b hb)⟩
              replace ST := hid (ST.out.next hb)
              clear g1 g2 g3 hf1 hf2 hb
              obtain ⟨w8, hw8⟩ : ∃ wn, w7.setCell ⟨w.heap.size + 1 + 1, 4, none⟩ (.slice x'.a x'.n x'.c) = wn := ⟨_, rfl⟩
              have c4 : w7.cell? ⟨w.heap.size + 1 + 1, 4, none⟩ = some (.slice none 0 0) := ST.out.out.cell 4 _ rfl
              have z4 : w7.frozen? ⟨w.heap.size + 1 + 1, 4, none⟩ = false := ST.out.out.frozen 4
              have ST2 : Hid (St13 w #[.slice pa pn pc, .slice (some xr) rn rc, .slice (some xu) un uc, .slice (some xg) gn gc, .slice xa xn xc, .slice ya yn yc] (((((nil6.setIfInBounds 0 (.slice p'.a p'.n p'.c)).setIfInBounds 1 (.slice (some ⟨ws.heap.size, 0, none⟩) rn rn)).setIfInBounds 2 (.slice (some ⟨wtr.heap.size, 0, none⟩) un un)).setIfInBounds 3 (.slice (some ⟨wtu.heap.size, 0, none⟩) gn gn)).setIfInBounds 4 (.slice x'.a x'.n x'.c)) w8) := hw8 ▸ ST.out.set 4 _
              have kp2 : Kp (w.heap.size + 1 + 1 + 1) w7 w8 := hw8 ▸ (Kp.refl (w.heap.size + 1 + 1 + 1) w7).set ⟨w.heap.size + 1 + 1, 4, none⟩ _ (Or.inl (by show w.heap.size + 1 + 1 < (w.heap.size + 1 + 1 + 1); omega))
              have ALL2 : Hid (∀ wj, Kp (w.heap.size + 1 + 1 + 1) w8 wj → ((((Words wj p' P) ∧ Roles wj ⟨some ⟨ws.heap.size, 0, none⟩, rn, rn⟩ rv' R) ∧ Roles wj ⟨some ⟨wtr.heap.size, 0, none⟩, un, un⟩ uv' U) ∧ Grants wj ⟨some ⟨wtu.heap.size, 0, none⟩, gn, gn⟩ gv' G) ∧ Grants wj x' xv' X) := fun wj h => ⟨ALL.out wj (((Kp.refl (w.heap.size + 1 + 1 + 1) wtg).below XB.out (Nat.le_refl _)).trans (kp2.trans h)), xG.out.kp XH.out (kp2.trans h)⟩
              clear q4 xG XB XH kp2 ST ALL
              have ST := ST2
              have ALL := ALL2
              clear ST2 ALL2
              have q5 : w8.cell? ⟨w.heap.size, 5, none⟩ = some (.slice ya yn yc) := ST.out.box.cell 5 _ rfl
              go_wp2_with fail
              refine (w40 ⟨ya, yn, yc⟩ yv Y w8 (HS0.out.2.2.2.2.2.below ST.out.below (Nat.le_refl _)) SM.out.2.2.2.2.2).mono ?_
              rintro e w9 ⟨y', yv', rfl, g1, g2, g3, hb, hf1, hf2⟩
              have yG := hid g1
              have YN := hid g2
              have YV := hid g3
              have YB := hid hb
              have YH : Hid (RHi (w.heap.size + 1 + 1 + 1) y' yv') := ⟨fun b hb => Nat.le_trans ST.out.size (hf1 b hb), fun i hi b hb => Nat.le_trans ST.out.size (hf2 i (by rw [← g2]; exact hi) b hb)⟩
              replace ST := hid (ST.out.next hb)
              clear g1 g2 g3 hf1 hf2 hb
              obtain ⟨w10, hw10⟩ : ∃ wn, w9.setCell ⟨w.heap.size + 1 + 1, 5, none⟩ (.slice y'.a y'.n y'.c) = wn := ⟨_, rfl⟩
              have c5 : w9.cell? ⟨w.heap.size + 1 + 1, 5, none⟩ = some (.slice none 0 0) := ST.out.out.cell 5 _ rfl
              have z5 : w9.frozen? ⟨w.heap.size + 1 + 1, 5, none⟩ = false := ST.out.out.frozen 5
              have ST2 : Hid (St13 w #[.slice pa pn pc, .slice (some xr) rn rc, .slice (some xu) un uc, .slice (some xg) gn gc, .slice xa xn xc, .slice ya yn yc] ((((((nil6.setIfInBounds 0 (.slice p'.a p'.n p'.c)).setIfInBounds 1 (.slice (some ⟨ws.heap.size, 0, none⟩) rn rn)).setIfInBounds 2 (.slice (some ⟨wtr.heap.size, 0, none⟩) un un)).setIfInBounds 3 (.slice (some ⟨wtu.heap.size, 0, none⟩) gn gn)).setIfInBounds 4 (.slice x'.a x'.n x'.c)).setIfInBounds 5 (.slice y'.a y'.n y'.c)) w10) := hw10 ▸ ST.out.set 5 _
              have kp2 : Kp (w.heap.size + 1 + 1 + 1) w9 w10 := hw10 ▸ (Kp.refl (w.heap.size + 1 + 1 + 1) w9).set ⟨w.heap.size + 1 + 1, 5, none⟩ _ (Or.inl (by show w.heap.size + 1 + 1 < (w.heap.size + 1 + 1 + 1); omega))
              have ALL2 : Hid (∀ wj, Kp (w.heap.size + 1 + 1 + 1) w10 wj → (((((Words wj p' P) ∧ Roles wj ⟨some ⟨ws.heap.size, 0, none⟩, rn, rn⟩ rv' R) ∧ Roles wj ⟨some ⟨wtr.heap.size, 0, none⟩, un, un⟩ uv' U) ∧ Grants wj ⟨some ⟨wtu.heap.size, 0, none⟩, gn, gn⟩ gv' G) ∧ Grants wj x' xv' X) ∧ Grants wj y' yv' Y) := fun wj h => ⟨ALL.out wj (((Kp.refl (w.heap.size + 1 + 1 + 1) w8).below YB.out (Nat.le_refl _)).trans (kp2.trans h)), yG.out.kp YH.out (kp2.trans h)⟩
              clear q5 yG YB YH kp2 ST ALL
              have ST := ST2
              have ALL := ALL2
              clear ST2 ALL2
              have r0 : w10.cell? ⟨w.heap.size + 1 + 1, 0, none⟩ = some (.slice p'.a p'.n p'.c) := ST.out.out.cell 0 _ rfl
              have r1 : w10.cell? ⟨w.heap.size + 1 + 1, 1, none⟩ = some (.slice (some ⟨ws.heap.size, 0, none⟩) rn rn) := ST.out.out.cell 1 _ rfl
              have r2 : w10.cell? ⟨w.heap.size + 1 + 1, 2, none⟩ = some (.slice (some ⟨wtr.heap.size, 0, none⟩) un un) := ST.out.out.cell 2 _ rfl
              have r3 : w10.cell? ⟨w.heap.size + 1 + 1, 3, none⟩ = some (.slice (some ⟨wtu.heap.size, 0, none⟩) gn gn) := ST.out.out.cell 3 _ rfl
              have r4 : w10.cell? ⟨w.heap.size + 1 + 1, 4, none⟩ = some (.slice x'.a x'.n x'.c) := ST.out.out.cell 4 _ rfl
              have r5 : w10.cell? ⟨w.heap.size + 1 + 1, 5, none⟩ = some (.slice y'.a y'.n y'.c) := ST.out.out.cell 5 _ rfl
              obtain ⟨x1, x2, x3, x4, x5, x6, e1, e2, e3, e4, e5, e6, k0, y0, k1, y1, k2, y2, k3, y3, k4, y4, k5, y5, t0, t1, t2, t3, t4, t5, KE, BE⟩ := storeRes ST.out.res (.slice p'.a p'.n p'.c) (.slice (some ⟨ws.heap.size, 0, none⟩) rn rn) (.slice (some ⟨wtr.heap.size, 0, none⟩) un un) (.slice (some ⟨wtu.heap.size, 0, none⟩) gn gn) (.slice x'.a x'.n x'.c) (.slice y'.a y'.n y'.c)
              have LE : Hid (Below w.heap.size w x6) := ST.out.below.trans (BE.out _ (Nat.le_succ _))
              have AE := hid (ALL.out x6 (KE.out (w.heap.size + 1 + 1 + 1) (by omega)))
              clear ST ALL KE BE
              go_wp2_with fail
              refine bodyPost_ret (v := .agg #[.slice p'.a p'.n p'.c, .slice (some ⟨ws.heap.size, 0, none⟩) rn rn, .slice (some ⟨wtr.heap.size, 0, none⟩) un un, .slice (some ⟨wtu.heap.size, 0, none⟩) gn gn, .slice x'.a x'.n x'.c, .slice y'.a y'.n y'.c]) (by simp [results, Try.results13, go_sem, t0, t1, t2, t3, t4, t5]) rfl ?_
              obtain ⟨⟨⟨⟨⟨a1, a2⟩, a3⟩, a4⟩, a5⟩, a6⟩ := AE.out
              exact ⟨⟨p', P, ⟨some ⟨ws.heap.size, 0, none⟩, rn, rn⟩, rv', R, ⟨some ⟨wtr.heap.size, 0, none⟩, un, un⟩, uv', U, ⟨some ⟨wtu.heap.size, 0, none⟩, gn, gn⟩, gv', G, x', xv', X, y', yv', Y⟩, rfl, ⟨a1, a2, a3, a4, a5, a6⟩, ⟨PL.out, rfl, rfl, Vr.out, rfl, rfl, Vu.out, rfl, rfl, Vg.out, rfl, XN.out, XV.out, rfl, YN.out, YV.out, rfl⟩, LE.out⟩

end Go.Proofs.Qxb6614661aR
