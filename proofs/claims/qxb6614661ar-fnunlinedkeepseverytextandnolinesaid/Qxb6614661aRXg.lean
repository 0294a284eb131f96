import Derived.Test.Qxb6614661aRXf
namespace Go.Proofs.Qxb6614661aR
open Go.RowKit

/-- the list s' is as long as s, and nil where s is empty. -/
def Like (s s' : Sl) : Prop := s'.n = s.n ∧ (s.n = 0 → s' = ⟨none, 0, 0⟩)
def LikeV (n : Nat) (vs vs' : Nat → Sl) : Prop := ∀ i, i < n → Like (vs i) (vs' i)
/-- S' is S without its lines. -/
structure Bare (S S' : Sp) : Prop where
  p : Like S.p S'.p
  P : S'.P = S.P.bare
  r : Like S.r S'.r
  rv : LikeV S.r.n S.rv S'.rv
  R : S'.R = S.R.bare
  u : Like S.u S'.u
  uv : LikeV S.u.n S.uv S'.uv
  U : S'.U = S.U.bare
  g : Like S.g S'.g
  gv : LikeV S.g.n S.gv S'.gv
  G : S'.G = S.G.bare
  x : Like S.x S'.x
  xv : LikeV S.x.n S.xv S'.xv
  X : S'.X = S.X.bare
  y : Like S.y S'.y
  yv : LikeV S.y.n S.yv S'.yv
  Y : S'.Y = S.Y.bare

/-- the cells vs lie in block B from its start on. -/
def Cells (w : World) (B : Nat) (vs : List Value) : Prop := ∀ j v, vs[j]? = some v → w.cell? ⟨B, j, none⟩ = some v
theorem Cells.of {w : World} {B : Nat} {cs : Array Value} {t : TypeId} {fr : Nat × Nat} (h : w.heap[B]? = some (.cells cs t fr)) : Cells w B cs.toList := fun j v hv => by
  rw [cell_of_row w B j cs t fr h]; simpa using hv

set_option maxRecDepth 100000 in
set_option maxHeartbeats 16000000 in
theorem w14 (S S' : Sp) (w : World) (hS : S.lies w) (hS' : S'.lies w) (hsm : S.small) (hb : Bare S S') : Calls Try.prog 14 #[S.val, S'.val] w (PostT w) := by
  obtain ⟨⟨pa, pn, pc⟩, P, ⟨ra, rn, rc⟩, rv, R, ⟨ua, un, uc⟩, uv, U, ⟨ga, gn, gc⟩, gv, G, ⟨xa, xn, xc⟩, xv, X, ⟨ya, yn, yc⟩, yv, Y⟩ := S
  obtain ⟨⟨pa', pn', pc'⟩, P', ⟨ra', rn', rc'⟩, rv', R', ⟨ua', un', uc'⟩, uv', U', ⟨ga', gn', gc'⟩, gv', G', ⟨xa', xn', xc'⟩, xv', X', ⟨ya', yn', yc'⟩, yv', Y'⟩ := S'
  obtain ⟨⟨e0, zp⟩, eP, ⟨e1, zr⟩, lr, eR, ⟨e2, zu⟩, lu, eU, ⟨e3, zg⟩, lg, eG, ⟨e4, zx⟩, lx, eX, ⟨e5, zy⟩, ly, eY⟩ := hb
  dsimp only at e0 zp eP e1 zr lr eR e2 zu lu eU e3 zg lg eG e4 zx lx eX e5 zy ly eY
  replace e0 := e0.symm
  replace e1 := e1.symm
  replace e2 := e2.symm
  replace e3 := e3.symm
  replace e4 := e4.symm
  replace e5 := e5.symm
  subst e0 eP e1 eR e2 eU e3 eG e4 eX e5 eY
  unfold Sp.val
  dsimp only
  obtain ⟨wa, hwa⟩ : ∃ wa, w.alloc (Obj.cells #[.slice pa pn pc, .slice ra rn rc, .slice ua un uc, .slice ga gn gc, .slice xa xn xc, .slice ya yn yc] 28) = wa := ⟨_, rfl⟩
  obtain ⟨w1, hw1⟩ : ∃ w1, wa.alloc (Obj.cells #[.slice pa' pn pc', .slice ra' rn rc', .slice ua' un uc', .slice ga' gn gc', .slice xa' xn xc', .slice ya' yn yc'] 37) = w1 := ⟨_, rfl⟩
  have hwas : wa.heap.size = w.heap.size + 1 := by rw [← hwa]; simp
  have b1 : Below w.heap.size w w1 := by rw [← hw1, ← hwa]; exact ((Below.refl _ _).alloc (Nat.le_refl _) _).alloc (by simp) _
  have B1 := hid b1
  have HS := hid (hS.below b1 (Nat.le_refl _))
  have HS' := hid (hS'.below b1 (Nat.le_refl _))
  have hq : wa.heap[w.heap.size]? = some (Obj.cells #[.slice pa pn pc, .slice ra rn rc, .slice ua un uc, .slice ga gn gc, .slice xa xn xc, .slice ya yn yc] 28) := by rw [← hwa]; exact heap_alloc_new w _
  have hq1 : w1.heap[w.heap.size]? = some (Obj.cells #[.slice pa pn pc, .slice ra rn rc, .slice ua un uc, .slice ga gn gc, .slice xa xn xc, .slice ya yn yc] 28) := by rw [← hw1, Below.heap_alloc _ _ _ (by omega)]; exact hq
  have hq2 : w1.heap[w.heap.size + 1]? = some (Obj.cells #[.slice pa' pn pc', .slice ra' rn rc', .slice ua' un uc', .slice ga' gn gc', .slice xa' xn xc', .slice ya' yn yc'] 37) := by rw [← hw1, ← hwas]; exact heap_alloc_new wa _
  have HQ := hid (Cells.of hq1)
  have HR := hid (Cells.of hq2)
  have SM := hid hsm
  have ZP := hid zp
  have ZR := hid zr
  have ZU := hid zu
  have ZG := hid zg
  have ZX := hid zx
  have ZY := hid zy
  have LR := hid lr
  have LU := hid lu
  have LG := hid lg
  have LX := hid lx
  have LY := hid ly
  have h1n : rn ≤ 1048576 := hsm.2.1.1
  have h2n : un ≤ 1048576 := hsm.2.2.1.1
  have h3n : gn ≤ 1048576 := hsm.2.2.2.1.1
  clear hS hS' hsm zp zr zu zg zx zy lr lu lg lx ly b1 hq hq1 hq2
  have q0 : w1.cell? ⟨w.heap.size, 0, none⟩ = some (.slice pa pn pc) := HQ.out 0 _ rfl
  have r0 : w1.cell? ⟨w.heap.size + 1, 0, none⟩ = some (.slice pa' pn pc') := HR.out 0 _ rfl
  go_enter Try.func14, Try.ntmps14
  go_wp2_with fail
  refine (w41 ⟨pa, pn, pc⟩ ⟨pa', pn, pc'⟩ P w1 HS.out.1 HS'.out.1 rfl ZP.out SM.out.1).mono ?_
  rintro e w2 ⟨rfl, hb2⟩
  have HB2 := hid hb2
  clear hb2 q0 r0
  have q4 : w2.cell? ⟨w.heap.size, 4, none⟩ = some (.slice xa xn xc) := cellKeep HB2.out (HQ.out 4 _ rfl)
  have r4 : w2.cell? ⟨w.heap.size + 1, 4, none⟩ = some (.slice xa' xn xc') := cellKeep HB2.out (HR.out 4 _ rfl)
  go_wp2_with fail
  refine (w42 ⟨xa, xn, xc⟩ ⟨xa', xn, xc'⟩ xv xv' X w2 (HS.out.2.2.2.2.1.below HB2.out (Nat.le_refl _)) (HS'.out.2.2.2.2.1.below HB2.out (Nat.le_refl _)) rfl ZX.out SM.out.2.2.2.2.1 LX.out).mono ?_
  rintro e w3 ⟨rfl, hb2⟩
  have HB3 : Hid (Below w1.heap.size w1 w3) := HB2.out.trans (hb2.mono HB2.out.size)
  clear hb2 q4 r4 HB2
  have q5 : w3.cell? ⟨w.heap.size, 5, none⟩ = some (.slice ya yn yc) := cellKeep HB3.out (HQ.out 5 _ rfl)
  have r5 : w3.cell? ⟨w.heap.size + 1, 5, none⟩ = some (.slice ya' yn yc') := cellKeep HB3.out (HR.out 5 _ rfl)
  go_wp2_with fail
  refine (w42 ⟨ya, yn, yc⟩ ⟨ya', yn, yc'⟩ yv yv' Y w3 (HS.out.2.2.2.2.2.below HB3.out (Nat.le_refl _)) (HS'.out.2.2.2.2.2.below HB3.out (Nat.le_refl _)) rfl ZY.out SM.out.2.2.2.2.2 LY.out).mono ?_
  rintro e wr ⟨rfl, hb2⟩
  have HB : Hid (Below w1.heap.size w1 wr) := HB3.out.trans (hb2.mono HB3.out.size)
  clear hb2 q5 r5 HB3
  have q1 : wr.cell? ⟨w.heap.size, 1, none⟩ = some (.slice ra rn rc) := cellKeep HB.out (HQ.out 1 _ rfl)
  have r1 : wr.cell? ⟨w.heap.size + 1, 1, none⟩ = some (.slice ra' rn rc') := cellKeep HB.out (HR.out 1 _ rfl)
  by_cases hr0 : rn = 0
  · skip
    obtain ⟨rfl, _, rfl⟩ := Sl.mk.inj (ZR.out hr0)
    have hz0 : (((rn : Int)) == 0) = true := by simpa using hr0
    have hz1 : (rn : Int) = 0 := by omega
    have hnil : ∀ w : World, (binOp .neq 32 (.slice none rn 0) (.slice none 0 0)).run Try.prog w = .ok (.bool false) w := fun w => run_neq_slice_nil w 32 _ none rn 0 Try.underlying32
    go_wp2
    go_loopw [5] (fun i wr => ∃ k : Nat, k ≤ rn ∧ i = .int .i64 k ∧ Hid (Below w1.heap.size w1 wr)) (fun i _ => rn - (intOf i).toNat)
    case atStart => exact ⟨0, Nat.zero_le _, rfl, HB⟩
    case round => as_aux_lemma =>
      clear q1 r1 HB hz0 hnil hz1
      obtain ⟨k, hk, rfl, HB⟩ := hrel
      have q1 : wr.cell? ⟨w.heap.size, 1, none⟩ = some (.slice ra rn rc) := cellKeep HB.out (HQ.out 1 _ rfl)
      have hlt : ¬ k < rn := by omega
      have hlt2 : ¬ (k : Int) < (rn : Int) := by omega
      have q2 : wr.cell? ⟨w.heap.size, 2, none⟩ = some (.slice ua un uc) := cellKeep HB.out (HQ.out 2 _ rfl)
      have r2 : wr.cell? ⟨w.heap.size + 1, 2, none⟩ = some (.slice ua' un uc') := cellKeep HB.out (HR.out 2 _ rfl)
      by_cases hu0 : un = 0
      · skip
        obtain ⟨rfl, _, rfl⟩ := Sl.mk.inj (ZU.out hu0)
        have hz0 : (((un : Int)) == 0) = true := by simpa using hu0
        have hz1 : (un : Int) = 0 := by omega
        have hnil : ∀ w : World, (binOp .neq 33 (.slice none un 0) (.slice none 0 0)).run Try.prog w = .ok (.bool false) w := fun w => run_neq_slice_nil w 33 _ none un 0 Try.underlying33
        go_wp2
        go_loopw [6] (fun i wr => ∃ k : Nat, k ≤ un ∧ i = .int .i64 k ∧ Hid (Below w1.heap.size w1 wr)) (fun i _ => un - (intOf i).toNat)
        case atStart => exact ⟨0, Nat.zero_le _, rfl, HB⟩
        case round => as_aux_lemma =>
          clear q2 r2 HB hz0 hnil hz1
          obtain ⟨k, hk, rfl, HB⟩ := hrel
          have q2 : wr.cell? ⟨w.heap.size, 2, none⟩ = some (.slice ua un uc) := cellKeep HB.out (HQ.out 2 _ rfl)
          have hlt : ¬ k < un := by omega
          have hlt2 : ¬ (k : Int) < (un : Int) := by omega
          have q3 : wr.cell? ⟨w.heap.size, 3, none⟩ = some (.slice ga gn gc) := cellKeep HB.out (HQ.out 3 _ rfl)
          have r3 : wr.cell? ⟨w.heap.size + 1, 3, none⟩ = some (.slice ga' gn gc') := cellKeep HB.out (HR.out 3 _ rfl)
          by_cases hg0 : gn = 0
          · skip
            obtain ⟨rfl, _, rfl⟩ := Sl.mk.inj (ZG.out hg0)
            have hz0 : (((gn : Int)) == 0) = true := by simpa using hg0
            have hz1 : (gn : Int) = 0 := by omega
            have hnil : ∀ w : World, (binOp .neq 34 (.slice none gn 0) (.slice none 0 0)).run Try.prog w = .ok (.bool false) w := fun w => run_neq_slice_nil w 34 _ none gn 0 Try.underlying34
            go_wp2
            go_loopw [7] (fun i wr => ∃ k : Nat, k ≤ gn ∧ i = .int .i64 k ∧ Hid (Below w1.heap.size w1 wr)) (fun i _ => gn - (intOf i).toNat)
            case atStart => exact ⟨0, Nat.zero_le _, rfl, HB⟩
            case round => as_aux_lemma =>
              clear q3 r3 HB hz0 hnil hz1
              obtain ⟨k, hk, rfl, HB⟩ := hrel
              have q3 : wr.cell? ⟨w.heap.size, 3, none⟩ = some (.slice ga gn gc) := cellKeep HB.out (HQ.out 3 _ rfl)
              have hlt : ¬ k < gn := by omega
              have hlt2 : ¬ (k : Int) < (gn : Int) := by omega
              go_wp2
              go_ret
              exact ⟨rfl, B1.out.trans (HB.out.mono B1.out.size)⟩
          · skip
            have hz0 : (((gn : Int)) == 0) = false := by simpa using hg0
            go_wp2
            go_loopw [7] (fun i wr => ∃ k : Nat, k ≤ gn ∧ i = .int .i64 k ∧ Hid (Below w1.heap.size w1 wr)) (fun i _ => gn - (intOf i).toNat)
            case atStart => exact ⟨0, Nat.zero_le _, rfl, HB⟩
            case round => as_aux_lemma =>
              clear q3 r3 HB hz0
              obtain ⟨k, hk, rfl, HB⟩ := hrel
              have q3 : wr.cell? ⟨w.heap.size, 3, none⟩ = some (.slice ga gn gc) := cellKeep HB.out (HQ.out 3 _ rfl)
              have r3 : wr.cell? ⟨w.heap.size + 1, 3, none⟩ = some (.slice ga' gn gc') := cellKeep HB.out (HR.out 3 _ rfl)
              by_cases hlt : k < gn
              · as_aux_lemma =>
                  have HC := hid (HS.out.2.2.2.1.below HB.out (Nat.le_refl _))
                  have HC' := hid (HS'.out.2.2.2.1.below HB.out (Nat.le_refl _))
                  rcases HC.out with h | ⟨b, of, ha, hc⟩
                  · exact absurd h (by dsimp only; omega)
                  rcases HC'.out with h | ⟨b', of', ha', hc'⟩
                  · exact absurd h (by dsimp only; omega)
                  dsimp only at ha ha' hc hc'
                  subst ha ha'
                  obtain ⟨v1, v2⟩ := LG.out k hlt
                  have V1 := hid v1
                  have V2 := hid v2
                  have V3 := hid (SM.out.2.2.2.1.2 k hlt)
                  obtain ⟨f0, f1, f2, f3, f4, f5, fw⟩ := hc k hlt
                  obtain ⟨g0, g1, g2, g3, g4, g5, gw⟩ := hc' k hlt
                  replace g0 : wr.cell? ⟨b', of' + k * 6, none⟩ = some (.int .i64 0) := g0
                  replace g1 : wr.cell? ⟨b', of' + k * 6 + 1, none⟩ = some (.string (G.t1 k)) := g1
                  replace g2 : wr.cell? ⟨b', of' + k * 6 + 2, none⟩ = some (.int .i64 0) := g2
                  replace g4 : wr.cell? ⟨b', of' + k * 6 + 4, none⟩ = some (.string (G.t2 k)) := g4
                  replace g5 : wr.cell? ⟨b', of' + k * 6 + 5, none⟩ = some (.int .i64 0) := g5
                  replace gw : Words wr (gv' k) (G.c k).bare := gw
                  obtain ⟨w5, hw5⟩ : ∃ w5, wr.alloc (Obj.cells #[.int .i64 0, .string (G.t1 k), .int .i64 0, .slice (gv' k).a (gv' k).n (gv' k).c, .string (G.t2 k), .int .i64 0] 86) = w5 := ⟨_, rfl⟩
                  have b5 : Below wr.heap.size wr w5 := by rw [← hw5]; exact (Below.refl _ _).alloc (Nat.le_refl _) _
                  have HD := hid (Cells.of (w := w5) (B := wr.heap.size) (cs := #[.int .i64 0, .string (G.t1 k), .int .i64 0, .slice (gv' k).a (gv' k).n (gv' k).c, .string (G.t2 k), .int .i64 0]) (t := 86) (fr := (0, 0)) (by rw [← hw5]; exact heap_alloc_new wr _))
                  have q5 : w5.cell? ⟨w.heap.size, 3, none⟩ = some (.slice (some ⟨b, of, none⟩) gn gc) := cellKeep b5 q3
                  have d0 : w5.cell? ⟨wr.heap.size, 0, none⟩ = some (.int .i64 0) := HD.out 0 _ rfl
                  have d1 : w5.cell? ⟨wr.heap.size, 1, none⟩ = some (.string (G.t1 k)) := HD.out 1 _ rfl
                  have d2 : w5.cell? ⟨wr.heap.size, 2, none⟩ = some (.int .i64 0) := HD.out 2 _ rfl
                  have d3 : w5.cell? ⟨wr.heap.size, 3, none⟩ = some (.slice (gv' k).a (gv' k).n (gv' k).c) := HD.out 3 _ rfl
                  have d4 : w5.cell? ⟨wr.heap.size, 4, none⟩ = some (.string (G.t2 k)) := HD.out 4 _ rfl
                  have d5 : w5.cell? ⟨wr.heap.size, 5, none⟩ = some (.int .i64 0) := HD.out 5 _ rfl
                  have m1 := cellKeep b5 f1
                  have m2 := cellKeep b5 f2
                  have m3 := cellKeep b5 f3
                  have m4 := cellKeep b5 f4
                  have m5 := cellKeep b5 f5
                  have mw := Words.next b5 fw
                  have nw := Words.next b5 gw
                  have HB5 : Hid (Below w1.heap.size w1 w5) := HB.out.trans (b5.mono HB.out.size)
                  have HW5 := hid hw5
                  clear v1 v2 hc hc' HC HC' hw5 b5 f0 f1 f2 f3 f4 f5 fw gw HD
                  have i0 : (0 : Int) ≤ (k : Int) := by omega
                  have i1 : (k : Int) < (gn : Int) := by omega
                  go_wp2_with fail
                  rw [HW5.out]
                  go_region_held3 (fun w' => w'.cell? ⟨w.heap.size, 3, none⟩ = some (.slice (some ⟨b, of, none⟩) gn gc) ∧ w'.cell? ⟨wr.heap.size, 0, none⟩ = some (.int .i64 0) ∧ w'.cell? ⟨wr.heap.size, 1, none⟩ = some (.string (G.t1 k)) ∧ w'.cell? ⟨wr.heap.size, 2, none⟩ = some (.int .i64 0) ∧ w'.cell? ⟨wr.heap.size, 3, none⟩ = some (.slice (gv' k).a (gv' k).n (gv' k).c) ∧ w'.cell? ⟨wr.heap.size, 4, none⟩ = some (.string (G.t2 k)) ∧ w'.cell? ⟨wr.heap.size, 5, none⟩ = some (.int .i64 0) ∧ w'.cell? ⟨b, of + k * 6 + 1, none⟩ = some (.string (G.t1 k)) ∧ w'.cell? ⟨b, of + k * 6 + 2, none⟩ = some (.int .i64 (G.l1 k)) ∧ w'.cell? ⟨b, of + k * 6 + 3, none⟩ = some (.slice (gv k).a (gv k).n (gv k).c) ∧ w'.cell? ⟨b, of + k * 6 + 4, none⟩ = some (.string (G.t2 k)) ∧ w'.cell? ⟨b, of + k * 6 + 5, none⟩ = some (.int .i64 (G.l2 k)) ∧ Words w' (gv k) (G.c k) ∧ Words w' (gv' k) (G.c k).bare ∧ Hid (Below w1.heap.size w1 w'))
                    (first
                      | exact ⟨q5, d0, d1, d2, d3, d4, d5, m1, m2, m3, m4, m5, mw, nw, HB5.out.drew⟩
                      | (go_split_ands
                         refine ⟨?_, ?_, ?_, ?_, ?_, ?_, ?_, ?_, ?_, ?_, ?_, ?_, ?_, ?_, ?_⟩
                         iterate 12 (first | exact cellKeep hb2 (by assumption) | assumption)
                         · first | exact Words.next hb2 (by assumption) | assumption
                         · first | exact Words.next hb2 (by assumption) | assumption
                         · first | exact Below.trans (by assumption) (Below.mono hb2 (Below.size (by assumption))) | assumption)
                      | go_keep)
                    (first
                      | (go_at_call 43; refine (w43 _ _ _).mono ?_; rintro e w7 ⟨rfl, hb2⟩)
                      | (go_at_call 41; go_split_ands; refine (w41 (gv k) (gv' k) (G.c k) _ (by assumption) (by assumption) V1.out V2.out V3.out).mono ?_; rintro e w7 ⟨rfl, hb2⟩))
                  have HB7 : Hid (Below w1.heap.size w1 w7) := by
                    go_split_ands
                    assumption
                  clear hb2
                  go_wp2
                  go_roundw
                  case rel => exact ⟨k + 1, by omega, by go_num, HB7⟩
                  case measure => simp [intOf]; omega
              have hlt2 : ¬ (k : Int) < (gn : Int) := by omega
              go_wp2
              go_ret
              exact ⟨rfl, B1.out.trans (HB.out.mono B1.out.size)⟩
      · skip
        have hz0 : (((un : Int)) == 0) = false := by simpa using hu0
        go_wp2
        go_loopw [6] (fun i wr => ∃ k : Nat, k ≤ un ∧ i = .int .i64 k ∧ Hid (Below w1.heap.size w1 wr)) (fun i _ => un - (intOf i).toNat)
        case atStart => exact ⟨0, Nat.zero_le _, rfl, HB⟩
        case round => as_aux_lemma =>
          clear q2 r2 HB hz0
          obtain ⟨k, hk, rfl, HB⟩ := hrel
          have q2 : wr.cell? ⟨w.heap.size, 2, none⟩ = some (.slice ua un uc) := cellKeep HB.out (HQ.out 2 _ rfl)
          have r2 : wr.cell? ⟨w.heap.size + 1, 2, none⟩ = some (.slice ua' un uc') := cellKeep HB.out (HR.out 2 _ rfl)
          by_cases hlt : k < un
          · as_aux_lemma =>
              have HC := hid (HS.out.2.2.1.below HB.out (Nat.le_refl _))
              have HC' := hid (HS'.out.2.2.1.below HB.out (Nat.le_refl _))
              rcases HC.out with h | ⟨b, of, ha, hc⟩
              · exact absurd h (by dsimp only; omega)
              rcases HC'.out with h | ⟨b', of', ha', hc'⟩
              · exact absurd h (by dsimp only; omega)
              dsimp only at ha ha' hc hc'
              subst ha ha'
              obtain ⟨v1, v2⟩ := LU.out k hlt
              have V1 := hid v1
              have V2 := hid v2
              have V3 := hid (SM.out.2.2.1.2 k hlt)
              obtain ⟨f0, f1, f2, fw⟩ := hc k hlt
              obtain ⟨g0, g1, g2, gw⟩ := hc' k hlt
              replace g0 : wr.cell? ⟨b', of' + k * 3, none⟩ = some (.string (U.t k)) := g0
              replace g1 : wr.cell? ⟨b', of' + k * 3 + 1, none⟩ = some (.int .i64 0) := g1
              replace gw : Words wr (uv' k) (U.c k).bare := gw
              clear v1 v2 hc hc' HC HC'
              have i0 : (0 : Int) ≤ (k : Int) := by omega
              have i1 : (k : Int) < (un : Int) := by omega
              go_wp2_with fail
              go_region_held3 (fun w' => w'.cell? ⟨w.heap.size, 2, none⟩ = some (.slice (some ⟨b, of, none⟩) un uc) ∧ w'.cell? ⟨w.heap.size + 1, 2, none⟩ = some (.slice (some ⟨b', of', none⟩) un uc') ∧ w'.cell? ⟨b, of + k * 3, none⟩ = some (.string (U.t k)) ∧ w'.cell? ⟨b, of + k * 3 + 1, none⟩ = some (.int .i64 (U.l k)) ∧ w'.cell? ⟨b, of + k * 3 + 2, none⟩ = some (.slice (uv k).a (uv k).n (uv k).c) ∧ w'.cell? ⟨b', of' + k * 3, none⟩ = some (.string (U.t k)) ∧ w'.cell? ⟨b', of' + k * 3 + 1, none⟩ = some (.int .i64 0) ∧ w'.cell? ⟨b', of' + k * 3 + 2, none⟩ = some (.slice (uv' k).a (uv' k).n (uv' k).c) ∧ Words w' (uv k) (U.c k) ∧ Words w' (uv' k) (U.c k).bare ∧ Hid (Below w1.heap.size w1 w'))
                (first
                  | exact ⟨q2, r2, f0, f1, f2, g0, g1, g2, fw, gw, HB.out.drew⟩
                  | (go_split_ands
                     refine ⟨?_, ?_, ?_, ?_, ?_, ?_, ?_, ?_, ?_, ?_, ?_⟩
                     iterate 8 (first | exact cellKeep hb2 (by assumption) | assumption)
                     · first | exact Words.next hb2 (by assumption) | assumption
                     · first | exact Words.next hb2 (by assumption) | assumption
                     · first | exact Below.trans (by assumption) (Below.mono hb2 (Below.size (by assumption))) | assumption)
                  | go_keep)
                (first
                  | (go_at_call 43; refine (w43 _ _ _).mono ?_; rintro e w7 ⟨rfl, hb2⟩)
                  | (go_at_call 41; go_split_ands; refine (w41 (uv k) (uv' k) (U.c k) _ (by assumption) (by assumption) V1.out V2.out V3.out).mono ?_; rintro e w7 ⟨rfl, hb2⟩))
              have HB7 : Hid (Below w1.heap.size w1 w7) := by
                go_split_ands
                assumption
              clear hb2
              go_wp2
              go_roundw
              case rel => exact ⟨k + 1, by omega, by go_num, HB7⟩
              case measure => simp [intOf]; omega
          have hlt2 : ¬ (k : Int) < (un : Int) := by omega
          have q3 : wr.cell? ⟨w.heap.size, 3, none⟩ = some (.slice ga gn gc) := cellKeep HB.out (HQ.out 3 _ rfl)
          have r3 : wr.cell? ⟨w.heap.size + 1, 3, none⟩ = some (.slice ga' gn gc') := cellKeep HB.out (HR.out 3 _ rfl)
          by_cases hg0 : gn = 0
          · skip
            obtain ⟨rfl, _, rfl⟩ := Sl.mk.inj (ZG.out hg0)
            have hz0 : (((gn : Int)) == 0) = true := by simpa using hg0
            have hz1 : (gn : Int) = 0 := by omega
            have hnil : ∀ w : World, (binOp .neq 34 (.slice none gn 0) (.slice none 0 0)).run Try.prog w = .ok (.bool false) w := fun w => run_neq_slice_nil w 34 _ none gn 0 Try.underlying34
            go_wp2
            go_loopw [7] (fun i wr => ∃ k : Nat, k ≤ gn ∧ i = .int .i64 k ∧ Hid (Below w1.heap.size w1 wr)) (fun i _ => gn - (intOf i).toNat)
            case atStart => exact ⟨0, Nat.zero_le _, rfl, HB⟩
            case round => as_aux_lemma =>
              clear q3 r3 HB hz0 hnil hz1
              obtain ⟨k, hk, rfl, HB⟩ := hrel
              have q3 : wr.cell? ⟨w.heap.size, 3, none⟩ = some (.slice ga gn gc) := cellKeep HB.out (HQ.out 3 _ rfl)
              have hlt : ¬ k < gn := by omega
              have hlt2 : ¬ (k : Int) < (gn : Int) := by omega
              go_wp2
              go_ret
              exact ⟨rfl, B1.out.trans (HB.out.mono B1.out.size)⟩
          · skip
            have hz0 : (((gn : Int)) == 0) = false := by simpa using hg0
            go_wp2
            go_loopw [7] (fun i wr => ∃ k : Nat, k ≤ gn ∧ i = .int .i64 k ∧ Hid (Below w1.heap.size w1 wr)) (fun i _ => gn - (intOf i).toNat)
            case atStart => exact ⟨0, Nat.zero_le _, rfl, HB⟩
            case round => as_aux_lemma =>
              clear q3 r3 HB hz0
              obtain ⟨k, hk, rfl, HB⟩ := hrel
              have q3 : wr.cell? ⟨w.heap.size, 3, none⟩ = some (.slice ga gn gc) := cellKeep HB.out (HQ.out 3 _ rfl)
              have r3 : wr.cell? ⟨w.heap.size + 1, 3, none⟩ = some (.slice ga' gn gc') := cellKeep HB.out (HR.out 3 _ rfl)
              by_cases hlt : k < gn
              · as_aux_lemma =>
                  have HC := hid (HS.out.2.2.2.1.below HB.out (Nat.le_refl _))
                  have HC' := hid (HS'.out.2.2.2.1.below HB.out (Nat.le_refl _))
                  rcases HC.out with h | ⟨b, of, ha, hc⟩
                  · exact absurd h (by dsimp only; omega)
                  rcases HC'.out with h | ⟨b', of', ha', hc'⟩
                  · exact absurd h (by dsimp only; omega)
                  dsimp only at ha ha' hc hc'
                  subst ha ha'
                  obtain ⟨v1, v2⟩ := LG.out k hlt
                  have V1 := hid v1
                  have V2 := hid v2
                  have V3 := hid (SM.out.2.2.2.1.2 k hlt)
                  obtain ⟨f0, f1, f2, f3, f4, f5, fw⟩ := hc k hlt
                  obtain ⟨g0, g1, g2, g3, g4, g5, gw⟩ := hc' k hlt
                  replace g0 : wr.cell? ⟨b', of' + k * 6, none⟩ = some (.int .i64 0) := g0
                  replace g1 : wr.cell? ⟨b', of' + k * 6 + 1, none⟩ = some (.string (G.t1 k)) := g1
                  replace g2 : wr.cell? ⟨b', of' + k * 6 + 2, none⟩ = some (.int .i64 0) := g2
                  replace g4 : wr.cell? ⟨b', of' + k * 6 + 4, none⟩ = some (.string (G.t2 k)) := g4
                  replace g5 : wr.cell? ⟨b', of' + k * 6 + 5, none⟩ = some (.int .i64 0) := g5
                  replace gw : Words wr (gv' k) (G.c k).bare := gw
                  obtain ⟨w5, hw5⟩ : ∃ w5, wr.alloc (Obj.cells #[.int .i64 0, .string (G.t1 k), .int .i64 0, .slice (gv' k).a (gv' k).n (gv' k).c, .string (G.t2 k), .int .i64 0] 86) = w5 := ⟨_, rfl⟩
                  have b5 : Below wr.heap.size wr w5 := by rw [← hw5]; exact (Below.refl _ _).alloc (Nat.le_refl _) _
                  have HD := hid (Cells.of (w := w5) (B := wr.heap.size) (cs := #[.int .i64 0, .string (G.t1 k), .int .i64 0, .slice (gv' k).a (gv' k).n (gv' k).c, .string (G.t2 k), .int .i64 0]) (t := 86) (fr := (0, 0)) (by rw [← hw5]; exact heap_alloc_new wr _))
                  have q5 : w5.cell? ⟨w.heap.size, 3, none⟩ = some (.slice (some ⟨b, of, none⟩) gn gc) := cellKeep b5 q3
                  have d0 : w5.cell? ⟨wr.heap.size, 0, none⟩ = some (.int .i64 0) := HD.out 0 _ rfl
                  have d1 : w5.cell? ⟨wr.heap.size, 1, none⟩ = some (.string (G.t1 k)) := HD.out 1 _ rfl
                  have d2 : w5.cell? ⟨wr.heap.size, 2, none⟩ = some (.int .i64 0) := HD.out 2 _ rfl
                  have d3 : w5.cell? ⟨wr.heap.size, 3, none⟩ = some (.slice (gv' k).a (gv' k).n (gv' k).c) := HD.out 3 _ rfl
                  have d4 : w5.cell? ⟨wr.heap.size, 4, none⟩ = some (.string (G.t2 k)) := HD.out 4 _ rfl
                  have d5 : w5.cell? ⟨wr.heap.size, 5, none⟩ = some (.int .i64 0) := HD.out 5 _ rfl
                  have m1 := cellKeep b5 f1
                  have m2 := cellKeep b5 f2
                  have m3 := cellKeep b5 f3
                  have m4 := cellKeep b5 f4
                  have m5 := cellKeep b5 f5
                  have mw := Words.next b5 fw
                  have nw := Words.next b5 gw
                  have HB5 : Hid (Below w1.heap.size w1 w5) := HB.out.trans (b5.mono HB.out.size)
                  have HW5 := hid hw5
                  clear v1 v2 hc hc' HC HC' hw5 b5 f0 f1 f2 f3 f4 f5 fw gw HD
                  have i0 : (0 : Int) ≤ (k : Int) := by omega
                  have i1 : (k : Int) < (gn : Int) := by omega
                  go_wp2_with fail
                  rw [HW5.out]
                  go_region_held3 (fun w' => w'.cell? ⟨w.heap.size, 3, none⟩ = some (.slice (some ⟨b, of, none⟩) gn gc) ∧ w'.cell? ⟨wr.heap.size, 0, none⟩ = some (.int .i64 0) ∧ w'.cell? ⟨wr.heap.size, 1, none⟩ = some (.string (G.t1 k)) ∧ w'.cell? ⟨wr.heap.size, 2, none⟩ = some (.int .i64 0) ∧ w'.cell? ⟨wr.heap.size, 3, none⟩ = some (.slice (gv' k).a (gv' k).n (gv' k).c) ∧ w'.cell? ⟨wr.heap.size, 4, none⟩ = some (.string (G.t2 k)) ∧ w'.cell? ⟨wr.heap.size, 5, none⟩ = some (.int .i64 0) ∧ w'.cell? ⟨b, of + k * 6 + 1, none⟩ = some (.string (G.t1 k)) ∧ w'.cell? ⟨b, of + k * 6 + 2, none⟩ = some (.int .i64 (G.l1 k)) ∧ w'.cell? ⟨b, of + k * 6 + 3, none⟩ = some (.slice (gv k).a (gv k).n (gv k).c) ∧ w'.cell? ⟨b, of + k * 6 + 4, none⟩ = some (.string (G.t2 k)) ∧ w'.cell? ⟨b, of + k * 6 + 5, none⟩ = some (.int .i64 (G.l2 k)) ∧ Words w' (gv k) (G.c k) ∧ Words w' (gv' k) (G.c k).bare ∧ Hid (Below w1.heap.size w1 w'))
                    (first
                      | exact ⟨q5, d0, d1, d2, d3, d4, d5, m1, m2, m3, m4, m5, mw, nw, HB5.out.drew⟩
                      | (go_split_ands
                         refine ⟨?_, ?_, ?_, ?_, ?_, ?_, ?_, ?_, ?_, ?_, ?_, ?_, ?_, ?_, ?_⟩
                         iterate 12 (first | exact cellKeep hb2 (by assumption) | assumption)
                         · first | exact Words.next hb2 (by assumption) | assumption
                         · first | exact Words.next hb2 (by assumption) | assumption
                         · first | exact Below.trans (by assumption) (Below.mono hb2 (Below.size (by assumption))) | assumption)
                      | go_keep)
                    (first
                      | (go_at_call 43; refine (w43 _ _ _).mono ?_; rintro e w7 ⟨rfl, hb2⟩)
                      | (go_at_call 41; go_split_ands; refine (w41 (gv k) (gv' k) (G.c k) _ (by assumption) (by assumption) V1.out V2.out V3.out).mono ?_; rintro e w7 ⟨rfl, hb2⟩))
                  have HB7 : Hid (Below w1.heap.size w1 w7) := by
                    go_split_ands
                    assumption
                  clear hb2
                  go_wp2
                  go_roundw
                  case rel => exact ⟨k + 1, by omega, by go_num, HB7⟩
                  case measure => simp [intOf]; omega
              have hlt2 : ¬ (k : Int) < (gn : Int) := by omega
              go_wp2
              go_ret
              exact ⟨rfl, B1.out.trans (HB.out.mono B1.out.size)⟩
  · skip
    have hz0 : (((rn : Int)) == 0) = false := by simpa using hr0
    go_wp2
    go_loopw [5] (fun i wr => ∃ k : Nat, k ≤ rn ∧ i = .int .i64 k ∧ Hid (Below w1.heap.size w1 wr)) (fun i _ => rn - (intOf i).toNat)
    case atStart => exact ⟨0, Nat.zero_le _, rfl, HB⟩
    case round => as_aux_lemma =>
      clear q1 r1 HB hz0
      obtain ⟨k, hk, rfl, HB⟩ := hrel
      have q1 : wr.cell? ⟨w.heap.size, 1, none⟩ = some (.slice ra rn rc) := cellKeep HB.out (HQ.out 1 _ rfl)
      have r1 : wr.cell? ⟨w.heap.size + 1, 1, none⟩ = some (.slice ra' rn rc') := cellKeep HB.out (HR.out 1 _ rfl)
      by_cases hlt : k < rn
      · as_aux_lemma =>
          have HC := hid (HS.out.2.1.below HB.out (Nat.le_refl _))
          have HC' := hid (HS'.out.2.1.below HB.out (Nat.le_refl _))
          rcases HC.out with h | ⟨b, of, ha, hc⟩
          · exact absurd h (by dsimp only; omega)
          rcases HC'.out with h | ⟨b', of', ha', hc'⟩
          · exact absurd h (by dsimp only; omega)
          dsimp only at ha ha' hc hc'
          subst ha ha'
          obtain ⟨v1, v2⟩ := LR.out k hlt
          have V1 := hid v1
          have V2 := hid v2
          have V3 := hid (SM.out.2.1.2 k hlt)
          obtain ⟨f0, f1, f2, fw⟩ := hc k hlt
          obtain ⟨g0, g1, g2, gw⟩ := hc' k hlt
          replace g0 : wr.cell? ⟨b', of' + k * 3, none⟩ = some (.string (R.t k)) := g0
          replace g1 : wr.cell? ⟨b', of' + k * 3 + 1, none⟩ = some (.int .i64 0) := g1
          replace gw : Words wr (rv' k) (R.c k).bare := gw
          clear v1 v2 hc hc' HC HC'
          have i0 : (0 : Int) ≤ (k : Int) := by omega
          have i1 : (k : Int) < (rn : Int) := by omega
          go_wp2_with fail
          go_region_held3 (fun w' => w'.cell? ⟨w.heap.size, 1, none⟩ = some (.slice (some ⟨b, of, none⟩) rn rc) ∧ w'.cell? ⟨w.heap.size + 1, 1, none⟩ = some (.slice (some ⟨b', of', none⟩) rn rc') ∧ w'.cell? ⟨b, of + k * 3, none⟩ = some (.string (R.t k)) ∧ w'.cell? ⟨b, of + k * 3 + 1, none⟩ = some (.int .i64 (R.l k)) ∧ w'.cell? ⟨b, of + k * 3 + 2, none⟩ = some (.slice (rv k).a (rv k).n (rv k).c) ∧ w'.cell? ⟨b', of' + k * 3, none⟩ = some (.string (R.t k)) ∧ w'.cell? ⟨b', of' + k * 3 + 1, none⟩ = some (.int .i64 0) ∧ w'.cell? ⟨b', of' + k * 3 + 2, none⟩ = some (.slice (rv' k).a (rv' k).n (rv' k).c) ∧ Words w' (rv k) (R.c k) ∧ Words w' (rv' k) (R.c k).bare ∧ Hid (Below w1.heap.size w1 w'))
            (first
              | exact ⟨q1, r1, f0, f1, f2, g0, g1, g2, fw, gw, HB.out.drew⟩
              | (go_split_ands
                 refine ⟨?_, ?_, ?_, ?_, ?_, ?_, ?_, ?_, ?_, ?_, ?_⟩
                 iterate 8 (first | exact cellKeep hb2 (by assumption) | assumption)
                 · first | exact Words.next hb2 (by assumption) | assumption
                 · first | exact Words.next hb2 (by assumption) | assumption
                 · first | exact Below.trans (by assumption) (Below.mono hb2 (Below.size (by assumption))) | assumption)
              | go_keep)
            (first
              | (go_at_call 43; refine (w43 _ _ _).mono ?_; rintro e w7 ⟨rfl, hb2⟩)
              | (go_at_call 41; go_split_ands; refine (w41 (rv k) (rv' k) (R.c k) _ (by assumption) (by assumption) V1.out V2.out V3.out).mono ?_; rintro e w7 ⟨rfl, hb2⟩))
          have HB7 : Hid (Below w1.heap.size w1 w7) := by
            go_split_ands
            assumption
          clear hb2
          go_wp2
          go_roundw
          case rel => exact ⟨k + 1, by omega, by go_num, HB7⟩
          case measure => simp [intOf]; omega
      have hlt2 : ¬ (k : Int) < (rn : Int) := by omega
      have q2 : wr.cell? ⟨w.heap.size, 2, none⟩ = some (.slice ua un uc) := cellKeep HB.out (HQ.out 2 _ rfl)
      have r2 : wr.cell? ⟨w.heap.size + 1, 2, none⟩ = some (.slice ua' un uc') := cellKeep HB.out (HR.out 2 _ rfl)
      by_cases hu0 : un = 0
      · skip
        obtain ⟨rfl, _, rfl⟩ := Sl.mk.inj (ZU.out hu0)
        have hz0 : (((un : Int)) == 0) = true := by simpa using hu0
        have hz1 : (un : Int) = 0 := by omega
        have hnil : ∀ w : World, (binOp .neq 33 (.slice none un 0) (.slice none 0 0)).run Try.prog w = .ok (.bool false) w := fun w => run_neq_slice_nil w 33 _ none un 0 Try.underlying33
        go_wp2
        go_loopw [6] (fun i wr => ∃ k : Nat, k ≤ un ∧ i = .int .i64 k ∧ Hid (Below w1.heap.size w1 wr)) (fun i _ => un - (intOf i).toNat)
        case atStart => exact ⟨0, Nat.zero_le _, rfl, HB⟩
        case round => as_aux_lemma =>
          clear q2 r2 HB hz0 hnil hz1
          obtain ⟨k, hk, rfl, HB⟩ := hrel
          have q2 : wr.cell? ⟨w.heap.size, 2, none⟩ = some (.slice ua un uc) := cellKeep HB.out (HQ.out 2 _ rfl)
          have hlt : ¬ k < un := by omega
          have hlt2 : ¬ (k : Int) < (un : Int) := by omega
          have q3 : wr.cell? ⟨w.heap.size, 3, none⟩ = some (.slice ga gn gc) := cellKeep HB.out (HQ.out 3 _ rfl)
          have r3 : wr.cell? ⟨w.heap.size + 1, 3, none⟩ = some (.slice ga' gn gc') := cellKeep HB.out (HR.out 3 _ rfl)
          by_cases hg0 : gn = 0
          · skip
            obtain ⟨rfl, _, rfl⟩ := Sl.mk.inj (ZG.out hg0)
            have hz0 : (((gn : Int)) == 0) = true := by simpa using hg0
            have hz1 : (gn : Int) = 0 := by omega
            have hnil : ∀ w : World, (binOp .neq 34 (.slice none gn 0) (.slice none 0 0)).run Try.prog w = .ok (.bool false) w := fun w => run_neq_slice_nil w 34 _ none gn 0 Try.underlying34
            go_wp2
            go_loopw [7] (fun i wr => ∃ k : Nat, k ≤ gn ∧ i = .int .i64 k ∧ Hid (Below w1.heap.size w1 wr)) (fun i _ => gn - (intOf i).toNat)
            case atStart => exact ⟨0, Nat.zero_le _, rfl, HB⟩
            case round => as_aux_lemma =>
              clear q3 r3 HB hz0 hnil hz1
              obtain ⟨k, hk, rfl, HB⟩ := hrel
              have q3 : wr.cell? ⟨w.heap.size, 3, none⟩ = some (.slice ga gn gc) := cellKeep HB.out (HQ.out 3 _ rfl)
              have hlt : ¬ k < gn := by omega
              have hlt2 : ¬ (k : Int) < (gn : Int) := by omega
              go_wp2
              go_ret
              exact ⟨rfl, B1.out.trans (HB.out.mono B1.out.size)⟩
          · skip
            have hz0 : (((gn : Int)) == 0) = false := by simpa using hg0
            go_wp2
            go_loopw [7] (fun i wr => ∃ k : Nat, k ≤ gn ∧ i = .int .i64 k ∧ Hid (Below w1.heap.size w1 wr)) (fun i _ => gn - (intOf i).toNat)
            case atStart => exact ⟨0, Nat.zero_le _, rfl, HB⟩
            case round => as_aux_lemma =>
              clear q3 r3 HB hz0
              obtain ⟨k, hk, rfl, HB⟩ := hrel
              have q3 : wr.cell? ⟨w.heap.size, 3, none⟩ = some (.slice ga gn gc) := cellKeep HB.out (HQ.out 3 _ rfl)
              have r3 : wr.cell? ⟨w.heap.size + 1, 3, none⟩ = some (.slice ga' gn gc') := cellKeep HB.out (HR.out 3 _ rfl)
              by_cases hlt : k < gn
              · as_aux_lemma =>
                  have HC := hid (HS.out.2.2.2.1.below HB.out (Nat.le_refl _))
                  have HC' := hid (HS'.out.2.2.2.1.below HB.out (Nat.le_refl _))
                  rcases HC.out with h | ⟨b, of, ha, hc⟩
                  · exact absurd h (by dsimp only; omega)
                  rcases HC'.out with h | ⟨b', of', ha', hc'⟩
                  · exact absurd h (by dsimp only; omega)
                  dsimp only at ha ha' hc hc'
                  subst ha ha'
                  obtain ⟨v1, v2⟩ := LG.out k hlt
                  have V1 := hid v1
                  have V2 := hid v2
                  have V3 := hid (SM.out.2.2.2.1.2 k hlt)
                  obtain ⟨f0, f1, f2, f3, f4, f5, fw⟩ := hc k hlt
                  obtain ⟨g0, g1, g2, g3, g4, g5, gw⟩ := hc' k hlt
                  replace g0 : wr.cell? ⟨b', of' + k * 6, none⟩ = some (.int .i64 0) := g0
                  replace g1 : wr.cell? ⟨b', of' + k * 6 + 1, none⟩ = some (.string (G.t1 k)) := g1
                  replace g2 : wr.cell? ⟨b', of' + k * 6 + 2, none⟩ = some (.int .i64 0) := g2
                  replace g4 : wr.cell? ⟨b', of' + k * 6 + 4, none⟩ = some (.string (G.t2 k)) := g4
                  replace g5 : wr.cell? ⟨b', of' + k * 6 + 5, none⟩ = some (.int .i64 0) := g5
                  replace gw : Words wr (gv' k) (G.c k).bare := gw
                  obtain ⟨w5, hw5⟩ : ∃ w5, wr.alloc (Obj.cells #[.int .i64 0, .string (G.t1 k), .int .i64 0, .slice (gv' k).a (gv' k).n (gv' k).c, .string (G.t2 k), .int .i64 0] 86) = w5 := ⟨_, rfl⟩
                  have b5 : Below wr.heap.size wr w5 := by rw [← hw5]; exact (Below.refl _ _).alloc (Nat.le_refl _) _
                  have HD := hid (Cells.of (w := w5) (B := wr.heap.size) (cs := #[.int .i64 0, .string (G.t1 k), .int .i64 0, .slice (gv' k).a (gv' k).n (gv' k).c, .string (G.t2 k), .int .i64 0]) (t := 86) (fr := (0, 0)) (by rw [← hw5]; exact heap_alloc_new wr _))
                  have q5 : w5.cell? ⟨w.heap.size, 3, none⟩ = some (.slice (some ⟨b, of, none⟩) gn gc) := cellKeep b5 q3
                  have d0 : w5.cell? ⟨wr.heap.size, 0, none⟩ = some (.int .i64 0) := HD.out 0 _ rfl
                  have d1 : w5.cell? ⟨wr.heap.size, 1, none⟩ = some (.string (G.t1 k)) := HD.out 1 _ rfl
                  have d2 : w5.cell? ⟨wr.heap.size, 2, none⟩ = some (.int .i64 0) := HD.out 2 _ rfl
                  have d3 : w5.cell? ⟨wr.heap.size, 3, none⟩ = some (.slice (gv' k).a (gv' k).n (gv' k).c) := HD.out 3 _ rfl
                  have d4 : w5.cell? ⟨wr.heap.size, 4, none⟩ = some (.string (G.t2 k)) := HD.out 4 _ rfl
                  have d5 : w5.cell? ⟨wr.heap.size, 5, none⟩ = some (.int .i64 0) := HD.out 5 _ rfl
                  have m1 := cellKeep b5 f1
                  have m2 := cellKeep b5 f2
                  have m3 := cellKeep b5 f3
                  have m4 := cellKeep b5 f4
                  have m5 := cellKeep b5 f5
                  have mw := Words.next b5 fw
                  have nw := Words.next b5 gw
                  have HB5 : Hid (Below w1.heap.size w1 w5) := HB.out.trans (b5.mono HB.out.size)
                  have HW5 := hid hw5
                  clear v1 v2 hc hc' HC HC' hw5 b5 f0 f1 f2 f3 f4 f5 fw gw HD
                  have i0 : (0 : Int) ≤ (k : Int) := by omega
                  have i1 : (k : Int) < (gn : Int) := by omega
                  go_wp2_with fail
                  rw [HW5.out]
                  go_region_held3 (fun w' => w'.cell? ⟨w.heap.size, 3, none⟩ = some (.slice (some ⟨b, of, none⟩) gn gc) ∧ w'.cell? ⟨wr.heap.size, 0, none⟩ = some (.int .i64 0) ∧ w'.cell? ⟨wr.heap.size, 1, none⟩ = some (.string (G.t1 k)) ∧ w'.cell? ⟨wr.heap.size, 2, none⟩ = some (.int .i64 0) ∧ w'.cell? ⟨wr.heap.size, 3, none⟩ = some (.slice (gv' k).a (gv' k).n (gv' k).c) ∧ w'.cell? ⟨wr.heap.size, 4, none⟩ = some (.string (G.t2 k)) ∧ w'.cell? ⟨wr.heap.size, 5, none⟩ = some (.int .i64 0) ∧ w'.cell? ⟨b, of + k * 6 + 1, none⟩ = some (.string (G.t1 k)) ∧ w'.cell? ⟨b, of + k * 6 + 2, none⟩ = some (.int .i64 (G.l1 k)) ∧ w'.cell? ⟨b, of + k * 6 + 3, none⟩ = some (.slice (gv k).a (gv k).n (gv k).c) ∧ w'.cell? ⟨b, of + k * 6 + 4, none⟩ = some (.string (G.t2 k)) ∧ w'.cell? ⟨b, of + k * 6 + 5, none⟩ = some (.int .i64 (G.l2 k)) ∧ Words w' (gv k) (G.c k) ∧ Words w' (gv' k) (G.c k).bare ∧ Hid (Below w1.heap.size w1 w'))
                    (first
                      | exact ⟨q5, d0, d1, d2, d3, d4, d5, m1, m2, m3, m4, m5, mw, nw, HB5.out.drew⟩
                      | (go_split_ands
                         refine ⟨?_, ?_, ?_, ?_, ?_, ?_, ?_, ?_, ?_, ?_, ?_, ?_, ?_, ?_, ?_⟩
                         iterate 12 (first | exact cellKeep hb2 (by assumption) | assumption)
                         · first | exact Words.next hb2 (by assumption) | assumption
                         · first | exact Words.next hb2 (by assumption) | assumption
                         · first | exact Below.trans (by assumption) (Below.mono hb2 (Below.size (by assumption))) | assumption)
                      | go_keep)
                    (first
                      | (go_at_call 43; refine (w43 _ _ _).mono ?_; rintro e w7 ⟨rfl, hb2⟩)
                      | (go_at_call 41; go_split_ands; refine (w41 (gv k) (gv' k) (G.c k) _ (by assumption) (by assumption) V1.out V2.out V3.out).mono ?_; rintro e w7 ⟨rfl, hb2⟩))
                  have HB7 : Hid (Below w1.heap.size w1 w7) := by
                    go_split_ands
                    assumption
                  clear hb2
                  go_wp2
                  go_roundw
                  case rel => exact ⟨k + 1, by omega, by go_num, HB7⟩
                  case measure => simp [intOf]; omega
              have hlt2 : ¬ (k : Int) < (gn : Int) := by omega
              go_wp2
              go_ret
              exact ⟨rfl, B1.out.trans (HB.out.mono B1.out.size)⟩
      · skip
        have hz0 : (((un : Int)) == 0) = false := by simpa using hu0
        go_wp2
        go_loopw [6] (fun i wr => ∃ k : Nat, k ≤ un ∧ i = .int .i64 k ∧ Hid (Below w1.heap.size w1 wr)) (fun i _ => un - (intOf i).toNat)
        case atStart => exact ⟨0, Nat.zero_le _, rfl, HB⟩
        case round => as_aux_lemma =>
          clear q2 r2 HB hz0
          obtain ⟨k, hk, rfl, HB⟩ := hrel
          have q2 : wr.cell? ⟨w.heap.size, 2, none⟩ = some (.slice ua un uc) := cellKeep HB.out (HQ.out 2 _ rfl)
          have r2 : wr.cell? ⟨w.heap.size + 1, 2, none⟩ = some (.slice ua' un uc') := cellKeep HB.out (HR.out 2 _ rfl)
          by_cases hlt : k < un
          · as_aux_lemma =>
              have HC := hid (HS.out.2.2.1.below HB.out (Nat.le_refl _))
              have HC' := hid (HS'.out.2.2.1.below HB.out (Nat.le_refl _))
              rcases HC.out with h | ⟨b, of, ha, hc⟩
              · exact absurd h (by dsimp only; omega)
              rcases HC'.out with h | ⟨b', of', ha', hc'⟩
              · exact absurd h (by dsimp only; omega)
              dsimp only at ha ha' hc hc'
              subst ha ha'
              obtain ⟨v1, v2⟩ := LU.out k hlt
              have V1 := hid v1
              have V2 := hid v2
              have V3 := hid (SM.out.2.2.1.2 k hlt)
              obtain ⟨f0, f1, f2, fw⟩ := hc k hlt
              obtain ⟨g0, g1, g2, gw⟩ := hc' k hlt
              replace g0 : wr.cell? ⟨b', of' + k * 3, none⟩ = some (.string (U.t k)) := g0
              replace g1 : wr.cell? ⟨b', of' + k * 3 + 1, none⟩ = some (.int .i64 0) := g1
              replace gw : Words wr (uv' k) (U.c k).bare := gw
              clear v1 v2 hc hc' HC HC'
              have i0 : (0 : Int) ≤ (k : Int) := by omega
              have i1 : (k : Int) < (un : Int) := by omega
              go_wp2_with fail
              go_region_held3 (fun w' => w'.cell? ⟨w.heap.size, 2, none⟩ = some (.slice (some ⟨b, of, none⟩) un uc) ∧ w'.cell? ⟨w.heap.size + 1, 2, none⟩ = some (.slice (some ⟨b', of', none⟩) un uc') ∧ w'.cell? ⟨b, of + k * 3, none⟩ = some (.string (U.t k)) ∧ w'.cell? ⟨b, of + k * 3 + 1, none⟩ = some (.int .i64 (U.l k)) ∧ w'.cell? ⟨b, of + k * 3 + 2, none⟩ = some (.slice (uv k).a (uv k).n (uv k).c) ∧ w'.cell? ⟨b', of' + k * 3, none⟩ = some (.string (U.t k)) ∧ w'.cell? ⟨b', of' + k * 3 + 1, none⟩ = some (.int .i64 0) ∧ w'.cell? ⟨b', of' + k * 3 + 2, none⟩ = some (.slice (uv' k).a (uv' k).n (uv' k).c) ∧ Words w' (uv k) (U.c k) ∧ Words w' (uv' k) (U.c k).bare ∧ Hid (Below w1.heap.size w1 w'))
                (first
                  | exact ⟨q2, r2, f0, f1, f2, g0, g1, g2, fw, gw, HB.out.drew⟩
                  | (go_split_ands
                     refine ⟨?_, ?_, ?_, ?_, ?_, ?_, ?_, ?_, ?_, ?_, ?_⟩
                     iterate 8 (first | exact cellKeep hb2 (by assumption) | assumption)
                     · first | exact Words.next hb2 (by assumption) | assumption
                     · first | exact Words.next hb2 (by assumption) | assumption
                     · first | exact Below.trans (by assumption) (Below.mono hb2 (Below.size (by assumption))) | assumption)
                  | go_keep)
                (first
                  | (go_at_call 43; refine (w43 _ _ _).mono ?_; rintro e w7 ⟨rfl, hb2⟩)
                  | (go_at_call 41; go_split_ands; refine (w41 (uv k) (uv' k) (U.c k) _ (by assumption) (by assumption) V1.out V2.out V3.out).mono ?_; rintro e w7 ⟨rfl, hb2⟩))
              have HB7 : Hid (Below w1.heap.size w1 w7) := by
                go_split_ands
                assumption
              clear hb2
              go_wp2
              go_roundw
              case rel => exact ⟨k + 1, by omega, by go_num, HB7⟩
              case measure => simp [intOf]; omega
          have hlt2 : ¬ (k : Int) < (un : Int) := by omega
          have q3 : wr.cell? ⟨w.heap.size, 3, none⟩ = some (.slice ga gn gc) := cellKeep HB.out (HQ.out 3 _ rfl)
          have r3 : wr.cell? ⟨w.heap.size + 1, 3, none⟩ = some (.slice ga' gn gc') := cellKeep HB.out (HR.out 3 _ rfl)
          by_cases hg0 : gn = 0
          · skip
            obtain ⟨rfl, _, rfl⟩ := Sl.mk.inj (ZG.out hg0)
            have hz0 : (((gn : Int)) == 0) = true := by simpa using hg0
            have hz1 : (gn : Int) = 0 := by omega
            have hnil : ∀ w : World, (binOp .neq 34 (.slice none gn 0) (.slice none 0 0)).run Try.prog w = .ok (.bool false) w := fun w => run_neq_slice_nil w 34 _ none gn 0 Try.underlying34
            go_wp2
            go_loopw [7] (fun i wr => ∃ k : Nat, k ≤ gn ∧ i = .int .i64 k ∧ Hid (Below w1.heap.size w1 wr)) (fun i _ => gn - (intOf i).toNat)
            case atStart => exact ⟨0, Nat.zero_le _, rfl, HB⟩
            case round => as_aux_lemma =>
              clear q3 r3 HB hz0 hnil hz1
              obtain ⟨k, hk, rfl, HB⟩ := hrel
              have q3 : wr.cell? ⟨w.heap.size, 3, none⟩ = some (.slice ga gn gc) := cellKeep HB.out (HQ.out 3 _ rfl)
              have hlt : ¬ k < gn := by omega
              have hlt2 : ¬ (k : Int) < (gn : Int) := by omega
              go_wp2
              go_ret
              exact ⟨rfl, B1.out.trans (HB.out.mono B1.out.size)⟩
          · skip
            have hz0 : (((gn : Int)) == 0) = false := by simpa using hg0
            go_wp2
            go_loopw [7] (fun i wr => ∃ k : Nat, k ≤ gn ∧ i = .int .i64 k ∧ Hid (Below w1.heap.size w1 wr)) (fun i _ => gn - (intOf i).toNat)
            case atStart => exact ⟨0, Nat.zero_le _, rfl, HB⟩
            case round => as_aux_lemma =>
              clear q3 r3 HB hz0
              obtain ⟨k, hk, rfl, HB⟩ := hrel
              have q3 : wr.cell? ⟨w.heap.size, 3, none⟩ = some (.slice ga gn gc) := cellKeep HB.out (HQ.out 3 _ rfl)
              have r3 : wr.cell? ⟨w.heap.size + 1, 3, none⟩ = some (.slice ga' gn gc') := cellKeep HB.out (HR.out 3 _ rfl)
              by_cases hlt : k < gn
              · as_aux_lemma =>
                  have HC := hid (HS.out.2.2.2.1.below HB.out (Nat.le_refl _))
                  have HC' := hid (HS'.out.2.2.2.1.below HB.out (Nat.le_refl _))
                  rcases HC.out with h | ⟨b, of, ha, hc⟩
                  · exact absurd h (by dsimp only; omega)
                  rcases HC'.out with h | ⟨b', of', ha', hc'⟩
                  · exact absurd h (by dsimp only; omega)
                  dsimp only at ha ha' hc hc'
                  subst ha ha'
                  obtain ⟨v1, v2⟩ := LG.out k hlt
                  have V1 := hid v1
                  have V2 := hid v2
                  have V3 := hid (SM.out.2.2.2.1.2 k hlt)
                  obtain ⟨f0, f1, f2, f3, f4, f5, fw⟩ := hc k hlt
                  obtain ⟨g0, g1, g2, g3, g4, g5, gw⟩ := hc' k hlt
                  replace g0 : wr.cell? ⟨b', of' + k * 6, none⟩ = some (.int .i64 0) := g0
                  replace g1 : wr.cell? ⟨b', of' + k * 6 + 1, none⟩ = some (.string (G.t1 k)) := g1
                  replace g2 : wr.cell? ⟨b', of' + k * 6 + 2, none⟩ = some (.int .i64 0) := g2
                  replace g4 : wr.cell? ⟨b', of' + k * 6 + 4, none⟩ = some (.string (G.t2 k)) := g4
                  replace g5 : wr.cell? ⟨b', of' + k * 6 + 5, none⟩ = some (.int .i64 0) := g5
                  replace gw : Words wr (gv' k) (G.c k).bare := gw
                  obtain ⟨w5, hw5⟩ : ∃ w5, wr.alloc (Obj.cells #[.int .i64 0, .string (G.t1 k), .int .i64 0, .slice (gv' k).a (gv' k).n (gv' k).c, .string (G.t2 k), .int .i64 0] 86) = w5 := ⟨_, rfl⟩
                  have b5 : Below wr.heap.size wr w5 := by rw [← hw5]; exact (Below.refl _ _).alloc (Nat.le_refl _) _
                  have HD := hid (Cells.of (w := w5) (B := wr.heap.size) (cs := #[.int .i64 0, .string (G.t1 k), .int .i64 0, .slice (gv' k).a (gv' k).n (gv' k).c, .string (G.t2 k), .int .i64 0]) (t := 86) (fr := (0, 0)) (by rw [← hw5]; exact heap_alloc_new wr _))
                  have q5 : w5.cell? ⟨w.heap.size, 3, none⟩ = some (.slice (some ⟨b, of, none⟩) gn gc) := cellKeep b5 q3
                  have d0 : w5.cell? ⟨wr.heap.size, 0, none⟩ = some (.int .i64 0) := HD.out 0 _ rfl
                  have d1 : w5.cell? ⟨wr.heap.size, 1, none⟩ = some (.string (G.t1 k)) := HD.out 1 _ rfl
                  have d2 : w5.cell? ⟨wr.heap.size, 2, none⟩ = some (.int .i64 0) := HD.out 2 _ rfl
                  have d3 : w5.cell? ⟨wr.heap.size, 3, none⟩ = some (.slice (gv' k).a (gv' k).n (gv' k).c) := HD.out 3 _ rfl
                  have d4 : w5.cell? ⟨wr.heap.size, 4, none⟩ = some (.string (G.t2 k)) := HD.out 4 _ rfl
                  have d5 : w5.cell? ⟨wr.heap.size, 5, none⟩ = some (.int .i64 0) := HD.out 5 _ rfl
                  have m1 := cellKeep b5 f1
                  have m2 := cellKeep b5 f2
                  have m3 := cellKeep b5 f3
                  have m4 := cellKeep b5 f4
                  have m5 := cellKeep b5 f5
                  have mw := Words.next b5 fw
                  have nw := Words.next b5 gw
                  have HB5 : Hid (Below w1.heap.size w1 w5) := HB.out.trans (b5.mono HB.out.size)
                  have HW5 := hid hw5
                  clear v1 v2 hc hc' HC HC' hw5 b5 f0 f1 f2 f3 f4 f5 fw gw HD
                  have i0 : (0 : Int) ≤ (k : Int) := by omega
                  have i1 : (k : Int) < (gn : Int) := by omega
                  go_wp2_with fail
                  rw [HW5.out]
                  go_region_held3 (fun w' => w'.cell? ⟨w.heap.size, 3, none⟩ = some (.slice (some ⟨b, of, none⟩) gn gc) ∧ w'.cell? ⟨wr.heap.size, 0, none⟩ = some (.int .i64 0) ∧ w'.cell? ⟨wr.heap.size, 1, none⟩ = some (.string (G.t1 k)) ∧ w'.cell? ⟨wr.heap.size, 2, none⟩ = some (.int .i64 0) ∧ w'.cell? ⟨wr.heap.size, 3, none⟩ = some (.slice (gv' k).a (gv' k).n (gv' k).c) ∧ w'.cell? ⟨wr.heap.size, 4, none⟩ = some (.string (G.t2 k)) ∧ w'.cell? ⟨wr.heap.size, 5, none⟩ = some (.int .i64 0) ∧ w'.cell? ⟨b, of + k * 6 + 1, none⟩ = some (.string (G.t1 k)) ∧ w'.cell? ⟨b, of + k * 6 + 2, none⟩ = some (.int .i64 (G.l1 k)) ∧ w'.cell? ⟨b, of + k * 6 + 3, none⟩ = some (.slice (gv k).a (gv k).n (gv k).c) ∧ w'.cell? ⟨b, of + k * 6 + 4, none⟩ = some (.string (G.t2 k)) ∧ w'.cell? ⟨b, of + k * 6 + 5, none⟩ = some (.int .i64 (G.l2 k)) ∧ Words w' (gv k) (G.c k) ∧ Words w' (gv' k) (G.c k).bare ∧ Hid (Below w1.heap.size w1 w'))
                    (first
                      | exact ⟨q5, d0, d1, d2, d3, d4, d5, m1, m2, m3, m4, m5, mw, nw, HB5.out.drew⟩
                      | (go_split_ands
                         refine ⟨?_, ?_, ?_, ?_, ?_, ?_, ?_, ?_, ?_, ?_, ?_, ?_, ?_, ?_, ?_⟩
                         iterate 12 (first | exact cellKeep hb2 (by assumption) | assumption)
                         · first | exact Words.next hb2 (by assumption) | assumption
                         · first | exact Words.next hb2 (by assumption) | assumption
                         · first | exact Below.trans (by assumption) (Below.mono hb2 (Below.size (by assumption))) | assumption)
                      | go_keep)
                    (first
                      | (go_at_call 43; refine (w43 _ _ _).mono ?_; rintro e w7 ⟨rfl, hb2⟩)
                      | (go_at_call 41; go_split_ands; refine (w41 (gv k) (gv' k) (G.c k) _ (by assumption) (by assumption) V1.out V2.out V3.out).mono ?_; rintro e w7 ⟨rfl, hb2⟩))
                  have HB7 : Hid (Below w1.heap.size w1 w7) := by
                    go_split_ands
                    assumption
                  clear hb2
                  go_wp2
                  go_roundw
                  case rel => exact ⟨k + 1, by omega, by go_num, HB7⟩
                  case measure => simp [intOf]; omega
              have hlt2 : ¬ (k : Int) < (gn : Int) := by omega
              go_wp2
              go_ret
              exact ⟨rfl, B1.out.trans (HB.out.mono B1.out.size)⟩

end Go.Proofs.Qxb6614661aR
