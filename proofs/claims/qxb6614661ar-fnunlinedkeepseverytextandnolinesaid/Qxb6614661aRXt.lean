import Derived.Test.Qxb6614661aRXs
namespace Go.Proofs.Qxb6614661aR
open Go.RowKit
attribute [local go_sem ↓] Go.wp_at_zero Go.wp_at_succ

set_option maxRecDepth 100000 in
set_option maxHeartbeats 4000000 in
theorem w12 (S : Sp) (w : World) (hS : S.lies w) (hsm : S.small) : Calls Try.prog 12 #[S.val] w (Post37 S w) := by
  have HS0 := hid hS
  have SM := hid hsm
  clear hS hsm
  obtain ⟨⟨pa, pn, pc⟩, P, ⟨ra, rn, rc⟩, rv, R, ⟨ua, un, uc⟩, uv, U, ⟨ga, gn, gc⟩, gv, G, ⟨xa, xn, xc⟩, xv, X, ⟨ya, yn, yc⟩, yv, Y⟩ := S
  unfold Sp.val
  dsimp only
  obtain ⟨wa, hwa⟩ : ∃ x, w.alloc (Obj.cells #[.slice pa pn pc, .slice ra rn rc, .slice ua un uc, .slice ga gn gc, .slice xa xn xc, .slice ya yn yc] 37) = x := ⟨_, rfl⟩
  obtain ⟨wb, hwb⟩ : ∃ x, wa.alloc (Obj.cells #[.slice none 0 0, .slice none 0 0, .slice none 0 0, .slice none 0 0, .slice none 0 0, .slice none 0 0] 37) = x := ⟨_, rfl⟩
  have sa : wa.heap.size = w.heap.size + 1 := by rw [← hwa]; simp
  have ba : Below w.heap.size w wa := hwa ▸ belAlloc _ _
  have bb : Below wa.heap.size wa wb := hwb ▸ belAlloc _ _
  have BB : Hid (Below w.heap.size w wb) := ba.trans (bb.mono (by omega))
  have KA : Blk wb w.heap.size 37 #[.slice pa pn pc, .slice ra rn rc, .slice ua un uc, .slice ga gn gc, .slice xa xn xc, .slice ya yn yc] := Blk.next (hwa ▸ blk_new _ _ _) bb
  have KB : Hid (Blk wb (w.heap.size + 1) 37 nil6) := by have h := blk_new wa 37 nil6; rw [show wa.alloc (Obj.cells nil6 37) = wb from hwb, sa] at h; exact h
  have q0 : wb.cell? ⟨w.heap.size, 0, none⟩ = some (.slice pa pn pc) := KA.cell 0 _ rfl
  have q1 : wb.cell? ⟨w.heap.size, 1, none⟩ = some (.slice ra rn rc) := KA.cell 1 _ rfl
  have q2 : wb.cell? ⟨w.heap.size, 2, none⟩ = some (.slice ua un uc) := KA.cell 2 _ rfl
  have q3 : wb.cell? ⟨w.heap.size, 3, none⟩ = some (.slice ga gn gc) := KA.cell 3 _ rfl
  have q4 : wb.cell? ⟨w.heap.size, 4, none⟩ = some (.slice xa xn xc) := KA.cell 4 _ rfl
  have q5 : wb.cell? ⟨w.heap.size, 5, none⟩ = some (.slice ya yn yc) := KA.cell 5 _ rfl
  have SB : Hid (w.heap.size + 1 < wb.heap.size) := KB.out.lt
  clear ba bb KA
  go_enter Try.func12, Try.ntmps12
  go_wp2_with fail
  refine (w37 ⟨⟨pa, pn, pc⟩, P, ⟨ra, rn, rc⟩, rv, R, ⟨ua, un, uc⟩, uv, U, ⟨ga, gn, gc⟩, gv, G, ⟨xa, xn, xc⟩, xv, X, ⟨ya, yn, yc⟩, yv, Y⟩ wb (HS0.out.below BB.out (Nat.le_refl _)) SM.out).mono ?_
  rintro e w3 ⟨S', rfl, hl, hbr, hb⟩
  have K3 : Blk w3 (w.heap.size + 1) 37 nil6 := KB.out.next hb
  have HL := hid hl
  have HBR := hid hbr
  have HB : Hid (Below w.heap.size w w3) := BB.out.trans (hb.mono BB.out.size)
  obtain ⟨x1, x2, x3, x4, x5, x6, e1, e2, e3, e4, e5, e6, k0, y0, k1, y1, k2, y2, k3, y3, k4, y4, k5, y5, t0, t1, t2, t3, t4, t5, KE, BE⟩ := storeRes K3 (.slice S'.p.a S'.p.n S'.p.c) (.slice S'.r.a S'.r.n S'.r.c) (.slice S'.u.a S'.u.n S'.u.c) (.slice S'.g.a S'.g.n S'.g.c) (.slice S'.x.a S'.x.n S'.x.c) (.slice S'.y.a S'.y.n S'.y.c)
  have LE : Hid (Below w.heap.size w x6) := HB.out.trans (BE.out _ (Nat.le_succ _))
  have SL : Hid (∀ wj, Kp w.heap.size x6 wj → S'.lies wj) := fun wj h => HL.out wj (((KE.out wb.heap.size SB.out)).trans ⟨h.size, fun b hb hl => h.block b (Nat.le_trans BB.out.size hb) hl⟩)
  clear KE BE K3 KB BB HB HL hl hbr hb
  unfold Sp.val
  dsimp only
  go_wp2_with fail
  refine bodyPost_ret (v := .agg #[.slice S'.p.a S'.p.n S'.p.c, .slice S'.r.a S'.r.n S'.r.c, .slice S'.u.a S'.u.n S'.u.c, .slice S'.g.a S'.g.n S'.g.c, .slice S'.x.a S'.x.n S'.x.c, .slice S'.y.a S'.y.n S'.y.c]) (by simp [results, Try.results12, go_sem, t0, t1, t2, t3, t4, t5]) rfl ?_
  exact ⟨S', rfl, SL.out, HBR.out, LE.out⟩

end Go.Proofs.Qxb6614661aR
