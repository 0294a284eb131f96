import Derived.Test.Qxb6614661aRXb
import Derived.Test.Qxb6614661aRXd
import Derived.Test.Qxb6614661aRXq
import Derived.Test.Qxb6614661aRXt
namespace Go.Proofs.Qxb6614661aR
open Go.RowKit
attribute [local go_sem ↓] Go.wp_at_zero Go.wp_at_succ

theorem Like.same {s s1 s2 : Sl} (h : s1.n = s.n) (k : Like s1 s2) : Like s s2 := ⟨k.1.trans h, fun h0 => k.2 (h.trans h0)⟩
theorem LikeV.same {n n1 : Nat} {vs v1 v2 : Nat → Sl} (hn : n1 = n) (h : ∀ i, i < n → (v1 i).n = (vs i).n) (k : LikeV n1 v1 v2) : LikeV n vs v2 := fun i hi => Like.same (h i hi) (k i (by omega))
theorem SmallN.same {n n1 : Nat} {vs v1 : Nat → Sl} (hn : n1 = n) (h : ∀ i, i < n → (v1 i).n = (vs i).n) (k : SmallN n vs) : SmallN n1 v1 := ⟨hn ▸ k.1, fun i hi => by rw [h i (by omega)]; exact k.2 i (by omega)⟩
theorem Same.small {S S1 : Sp} (h : Same S S1) (k : S.small) : S1.small :=
  ⟨h.p ▸ k.1, k.2.1.same h.r h.rv, k.2.2.1.same h.u h.uv, k.2.2.2.1.same h.g h.gv, k.2.2.2.2.1.same h.x h.xv, k.2.2.2.2.2.same h.y h.yv⟩
theorem Same.bare {S S1 S2 : Sp} (h : Same S S1) (k : Bare S1 S2) : Bare S S2 :=
  ⟨k.p.same h.p, k.P.trans (by rw [h.P]), k.r.same h.r, k.rv.same h.r h.rv, k.R.trans (by rw [h.R]), k.u.same h.u, k.uv.same h.u h.uv, k.U.trans (by rw [h.U]), k.g.same h.g, k.gv.same h.g h.gv, k.G.trans (by rw [h.G]),
    k.x.same h.x, k.xv.same h.x h.xv, k.X.trans (by rw [h.X]), k.y.same h.y, k.yv.same h.y h.yv, k.Y.trans (by rw [h.Y])⟩

set_option maxRecDepth 100000 in
set_option maxHeartbeats 4000000 in
theorem w3 (S : Sp) (w : World) (hS : S.lies w) : Calls Try.prog 3 #[S.val] w (PostT w) := by
  have HS0 := hid hS
  clear hS
  obtain ⟨⟨pa, pn, pc⟩, P, ⟨ra, rn, rc⟩, rv, R, ⟨ua, un, uc⟩, uv, U, ⟨ga, gn, gc⟩, gv, G, ⟨xa, xn, xc⟩, xv, X, ⟨ya, yn, yc⟩, yv, Y⟩ := S
  unfold Sp.val
  dsimp only
  obtain ⟨wa, hwa⟩ : ∃ x, w.alloc (Obj.cells #[.slice pa pn pc, .slice ra rn rc, .slice ua un uc, .slice ga gn gc, .slice xa xn xc, .slice ya yn yc] 28) = x := ⟨_, rfl⟩
  have BA : Hid (Below w.heap.size w wa) := hwa ▸ belAlloc _ _
  have KA : Hid (Blk wa w.heap.size 28 #[.slice pa pn pc, .slice ra rn rc, .slice ua un uc, .slice ga gn gc, .slice xa xn xc, .slice ya yn yc]) := hwa ▸ blk_new _ _ _
  have q0 : wa.cell? ⟨w.heap.size, 0, none⟩ = some (.slice pa pn pc) := KA.out.cell 0 _ rfl
  have q1 : wa.cell? ⟨w.heap.size, 1, none⟩ = some (.slice ra rn rc) := KA.out.cell 1 _ rfl
  have q2 : wa.cell? ⟨w.heap.size, 2, none⟩ = some (.slice ua un uc) := KA.out.cell 2 _ rfl
  have q3 : wa.cell? ⟨w.heap.size, 3, none⟩ = some (.slice ga gn gc) := KA.out.cell 3 _ rfl
  have q4 : wa.cell? ⟨w.heap.size, 4, none⟩ = some (.slice xa xn xc) := KA.out.cell 4 _ rfl
  have q5 : wa.cell? ⟨w.heap.size, 5, none⟩ = some (.slice ya yn yc) := KA.out.cell 5 _ rfl
  go_enter Try.func3, Try.ntmps3
  go_wp2_with fail
  refine (w10 ⟨⟨pa, pn, pc⟩, P, ⟨ra, rn, rc⟩, rv, R, ⟨ua, un, uc⟩, uv, U, ⟨ga, gn, gc⟩, gv, G, ⟨xa, xn, xc⟩, xv, X, ⟨ya, yn, yc⟩, yv, Y⟩ wa (HS0.out.below BA.out (Nat.le_refl _))).mono ?_
  rintro e w1 ⟨v, rfl, hb1, hsm⟩
  have B1 : Hid (Below w.heap.size w w1) := BA.out.trans (hb1.mono BA.out.size)
  have Kw1 : Hid (Blk w1 w.heap.size 28 #[.slice pa pn pc, .slice ra rn rc, .slice ua un uc, .slice ga gn gc, .slice xa xn xc, .slice ya yn yc]) := KA.out.next hb1
  clear hb1 q0 q1 q2 q3 q4 q5
  cases v with
  | false =>
    clear hsm
    go_wp2
    go_ret
    exact ⟨rfl, B1.out⟩
  | true =>
    have SM := hid (hsm rfl)
    clear hsm
    have q0 : w1.cell? ⟨w.heap.size, 0, none⟩ = some (.slice pa pn pc) := Kw1.out.cell 0 _ rfl
    have q1 : w1.cell? ⟨w.heap.size, 1, none⟩ = some (.slice ra rn rc) := Kw1.out.cell 1 _ rfl
    have q2 : w1.cell? ⟨w.heap.size, 2, none⟩ = some (.slice ua un uc) := Kw1.out.cell 2 _ rfl
    have q3 : w1.cell? ⟨w.heap.size, 3, none⟩ = some (.slice ga gn gc) := Kw1.out.cell 3 _ rfl
    have q4 : w1.cell? ⟨w.heap.size, 4, none⟩ = some (.slice xa xn xc) := Kw1.out.cell 4 _ rfl
    have q5 : w1.cell? ⟨w.heap.size, 5, none⟩ = some (.slice ya yn yc) := Kw1.out.cell 5 _ rfl
    go_wp2_with fail
    refine (w11 0 ⟨⟨pa, pn, pc⟩, P, ⟨ra, rn, rc⟩, rv, R, ⟨ua, un, uc⟩, uv, U, ⟨ga, gn, gc⟩, gv, G, ⟨xa, xn, xc⟩, xv, X, ⟨ya, yn, yc⟩, yv, Y⟩ w1 (by omega) (by omega) (HS0.out.below B1.out (Nat.le_refl _))).mono ?_
    rintro e w2 ⟨T, rfl, hb2, h0, h1⟩
    have B2 : Hid (Below w.heap.size w w2) := B1.out.trans (hb2.mono B1.out.size)
    have Kw2 : Hid (Blk w2 w.heap.size 28 #[.slice pa pn pc, .slice ra rn rc, .slice ua un uc, .slice ga gn gc, .slice xa xn xc, .slice ya yn yc]) := Kw1.out.next hb2
    clear hb2 q0 q1 q2 q3 q4 q5
    by_cases hT : 1048576 < T
    · skip
      go_wp2
      go_ret
      exact ⟨rfl, B2.out⟩
    have q0 : w2.cell? ⟨w.heap.size, 0, none⟩ = some (.slice pa pn pc) := Kw2.out.cell 0 _ rfl
    have q1 : w2.cell? ⟨w.heap.size, 1, none⟩ = some (.slice ra rn rc) := Kw2.out.cell 1 _ rfl
    have q2 : w2.cell? ⟨w.heap.size, 2, none⟩ = some (.slice ua un uc) := Kw2.out.cell 2 _ rfl
    have q3 : w2.cell? ⟨w.heap.size, 3, none⟩ = some (.slice ga gn gc) := Kw2.out.cell 3 _ rfl
    have q4 : w2.cell? ⟨w.heap.size, 4, none⟩ = some (.slice xa xn xc) := Kw2.out.cell 4 _ rfl
    have q5 : w2.cell? ⟨w.heap.size, 5, none⟩ = some (.slice ya yn yc) := Kw2.out.cell 5 _ rfl
    go_wp2_with fail
    refine (w13 ⟨⟨pa, pn, pc⟩, P, ⟨ra, rn, rc⟩, rv, R, ⟨ua, un, uc⟩, uv, U, ⟨ga, gn, gc⟩, gv, G, ⟨xa, xn, xc⟩, xv, X, ⟨ya, yn, yc⟩, yv, Y⟩ w2 (HS0.out.below B2.out (Nat.le_refl _)) SM.out).mono ?_
    rintro e w3 ⟨S1, rfl, hl1, hsame, hb3⟩
    have B3 : Hid (Below w.heap.size w w3) := B2.out.trans (hb3.mono B2.out.size)
    have Kw3 : Hid (Blk w3 w.heap.size 28 #[.slice pa pn pc, .slice ra rn rc, .slice ua un uc, .slice ga gn gc, .slice xa xn xc, .slice ya yn yc]) := Kw2.out.next hb3
    have HL1 := hid hl1
    have SA := hid hsame
    clear hl1 hsame hb3 q0 q1 q2 q3 q4 q5
    go_wp2_with fail
    refine (w12 S1 w3 HL1.out (SA.out.small SM.out)).mono ?_
    rintro e w4 ⟨S2, rfl, hl2, hbr, hb4⟩
    have B4 : Hid (Below w.heap.size w w4) := B3.out.trans (hb4.mono B3.out.size)
    have Kw4 : Hid (Blk w4 w.heap.size 28 #[.slice pa pn pc, .slice ra rn rc, .slice ua un uc, .slice ga gn gc, .slice xa xn xc, .slice ya yn yc]) := Kw3.out.next hb4
    have HL2 := hid (hl2 w4 (Kp.refl _ _))
    have BR := hid (SA.out.bare hbr)
    clear hl2 hbr hb4 SA HL1
    simp only [Sp.val]
    obtain ⟨w5, hw5⟩ : ∃ x, w4.alloc (Obj.cells #[.slice S2.p.a S2.p.n S2.p.c, .slice S2.r.a S2.r.n S2.r.c, .slice S2.u.a S2.u.n S2.u.c, .slice S2.g.a S2.g.n S2.g.c, .slice S2.x.a S2.x.n S2.x.c, .slice S2.y.a S2.y.n S2.y.c] 37) = x := ⟨_, rfl⟩
    have b5 : Below w4.heap.size w4 w5 := hw5 ▸ belAlloc _ _
    have B5 : Hid (Below w.heap.size w w5) := B4.out.trans (b5.mono B4.out.size)
    have Kw5 : Hid (Blk w5 w.heap.size 28 #[.slice pa pn pc, .slice ra rn rc, .slice ua un uc, .slice ga gn gc, .slice xa xn xc, .slice ya yn yc]) := Kw4.out.next b5
    have KO : Blk w5 w4.heap.size 37 #[.slice S2.p.a S2.p.n S2.p.c, .slice S2.r.a S2.r.n S2.r.c, .slice S2.u.a S2.u.n S2.u.c, .slice S2.g.a S2.g.n S2.g.c, .slice S2.x.a S2.x.n S2.x.c, .slice S2.y.a S2.y.n S2.y.c] := hw5 ▸ blk_new _ _ _
    have HL5 := hid (HL2.out.below b5 (Nat.le_refl _))
    have q0 : w5.cell? ⟨w.heap.size, 0, none⟩ = some (.slice pa pn pc) := Kw5.out.cell 0 _ rfl
    have q1 : w5.cell? ⟨w.heap.size, 1, none⟩ = some (.slice ra rn rc) := Kw5.out.cell 1 _ rfl
    have q2 : w5.cell? ⟨w.heap.size, 2, none⟩ = some (.slice ua un uc) := Kw5.out.cell 2 _ rfl
    have q3 : w5.cell? ⟨w.heap.size, 3, none⟩ = some (.slice ga gn gc) := Kw5.out.cell 3 _ rfl
    have q4 : w5.cell? ⟨w.heap.size, 4, none⟩ = some (.slice xa xn xc) := Kw5.out.cell 4 _ rfl
    have q5 : w5.cell? ⟨w.heap.size, 5, none⟩ = some (.slice ya yn yc) := Kw5.out.cell 5 _ rfl
    have d0 : w5.cell? ⟨w4.heap.size, 0, none⟩ = some (.slice S2.p.a S2.p.n S2.p.c) := KO.cell 0 _ rfl
    have d1 : w5.cell? ⟨w4.heap.size, 1, none⟩ = some (.slice S2.r.a S2.r.n S2.r.c) := KO.cell 1 _ rfl
    have d2 : w5.cell? ⟨w4.heap.size, 2, none⟩ = some (.slice S2.u.a S2.u.n S2.u.c) := KO.cell 2 _ rfl
    have d3 : w5.cell? ⟨w4.heap.size, 3, none⟩ = some (.slice S2.g.a S2.g.n S2.g.c) := KO.cell 3 _ rfl
    have d4 : w5.cell? ⟨w4.heap.size, 4, none⟩ = some (.slice S2.x.a S2.x.n S2.x.c) := KO.cell 4 _ rfl
    have d5 : w5.cell? ⟨w4.heap.size, 5, none⟩ = some (.slice S2.y.a S2.y.n S2.y.c) := KO.cell 5 _ rfl
    have HW5 := hid hw5
    clear b5 KO hw5
    go_wp2_with (rw [HW5.out])
    refine (w14 ⟨⟨pa, pn, pc⟩, P, ⟨ra, rn, rc⟩, rv, R, ⟨ua, un, uc⟩, uv, U, ⟨ga, gn, gc⟩, gv, G, ⟨xa, xn, xc⟩, xv, X, ⟨ya, yn, yc⟩, yv, Y⟩ S2 w5 (HS0.out.below B5.out (Nat.le_refl _)) HL5.out SM.out BR.out).mono ?_
    rintro e w6 ⟨rfl, hb6⟩
    have B6 : Hid (Below w.heap.size w w6) := B5.out.trans (hb6.mono B5.out.size)
    clear hb6
    go_wp2
    go_ret
    exact ⟨rfl, B6.out⟩

end Go.Proofs.Qxb6614661aR
