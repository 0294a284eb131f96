import Derived.Test.Qxb6614661aRXm
import Derived.Deep.DrawnRows
import Derived.Deep.MidRow
namespace Go.Proofs.Qxb6614661aR
open Go.RowKit
attribute [local go_sem ↓] Go.wp_at_zero Go.wp_at_succ

/-- a struct of 6 cells written, cell by cell, into a row of one's own. -/
theorem store6 {x0 : World} {g : Nat} {e : TypeId} {N o : Nat} (v0 v1 v2 v3 v4 v5 : Value) (h0 : Ow x0 g e N) (hN : o + 6 ≤ N) :
    ∃ x1 x2 x3 x4 x5 x6 : World, ∃ y0 y1 y2 y3 y4 y5 : Value, x0.setCell ⟨g, o, none⟩ v0 = x1 ∧ x1.setCell ⟨g, o + 1, none⟩ v1 = x2 ∧ x2.setCell ⟨g, o + 2, none⟩ v2 = x3 ∧ x3.setCell ⟨g, o + 3, none⟩ v3 = x4 ∧ x4.setCell ⟨g, o + 4, none⟩ v4 = x5 ∧ x5.setCell ⟨g, o + 5, none⟩ v5 = x6 ∧ x0.cell? ⟨g, o, none⟩ = some y0 ∧ x0.frozen? ⟨g, o, none⟩ = false ∧ x1.cell? ⟨g, o + 1, none⟩ = some y1 ∧ x1.frozen? ⟨g, o + 1, none⟩ = false ∧ x2.cell? ⟨g, o + 2, none⟩ = some y2 ∧ x2.frozen? ⟨g, o + 2, none⟩ = false ∧ x3.cell? ⟨g, o + 3, none⟩ = some y3 ∧ x3.frozen? ⟨g, o + 3, none⟩ = false ∧ x4.cell? ⟨g, o + 4, none⟩ = some y4 ∧ x4.frozen? ⟨g, o + 4, none⟩ = false ∧ x5.cell? ⟨g, o + 5, none⟩ = some y5 ∧ x5.frozen? ⟨g, o + 5, none⟩ = false ∧ Hid (Wrote x0 x6 g o [v0, v1, v2, v3, v4, v5]) ∧ Hid (Ow x6 g e N) ∧ Hid (∀ B, B ≤ g → Below B x0 x6) := by
  have h1 := h0.setCell ⟨g, o, none⟩ v0
  have h2 := h1.setCell ⟨g, o + 1, none⟩ v1
  have h3 := h2.setCell ⟨g, o + 2, none⟩ v2
  have h4 := h3.setCell ⟨g, o + 3, none⟩ v3
  have h5 := h4.setCell ⟨g, o + 4, none⟩ v4
  have h6 := h5.setCell ⟨g, o + 5, none⟩ v5
  obtain ⟨y0, c0⟩ := h0.cell (o) (by omega)
  obtain ⟨y1, c1⟩ := h1.cell (o + 1) (by omega)
  obtain ⟨y2, c2⟩ := h2.cell (o + 2) (by omega)
  obtain ⟨y3, c3⟩ := h3.cell (o + 3) (by omega)
  obtain ⟨y4, c4⟩ := h4.cell (o + 4) (by omega)
  obtain ⟨y5, c5⟩ := h5.cell (o + 5) (by omega)
  have w0 := Wrote.nil x0 g o
  have w1 := w0.snoc h0 (o) (by simp) (by omega) v0
  have w2 := w1.snoc h1 (o + 1) (by simp) (by omega) v1
  have w3 := w2.snoc h2 (o + 2) (by simp) (by omega) v2
  have w4 := w3.snoc h3 (o + 3) (by simp) (by omega) v3
  have w5 := w4.snoc h4 (o + 4) (by simp) (by omega) v4
  have w6 := w5.snoc h5 (o + 5) (by simp) (by omega) v5
  exact ⟨_, _, _, _, _, _, y0, y1, y2, y3, y4, y5, rfl, rfl, rfl, rfl, rfl, rfl, c0, h0.frozen _, c1, h1.frozen _, c2, h2.frozen _, c3, h3.frozen _, c4, h4.frozen _, c5, h5.frozen _, w6, h6, fun B hB => ((((((((((((Below.refl _ _).setCell (p := ⟨g, o, none⟩) hB v0)).setCell (p := ⟨g, o + 1, none⟩) hB v1)).setCell (p := ⟨g, o + 2, none⟩) hB v2)).setCell (p := ⟨g, o + 3, none⟩) hB v3)).setCell (p := ⟨g, o + 4, none⟩) hB v4)).setCell (p := ⟨g, o + 5, none⟩) hB v5)⟩
/-- a struct of 3 cells written, cell by cell, into a row of one's own. -/
theorem store3 {x0 : World} {g : Nat} {e : TypeId} {N o : Nat} (v0 v1 v2 : Value) (h0 : Ow x0 g e N) (hN : o + 3 ≤ N) :
    ∃ x1 x2 x3 : World, ∃ y0 y1 y2 : Value, x0.setCell ⟨g, o, none⟩ v0 = x1 ∧ x1.setCell ⟨g, o + 1, none⟩ v1 = x2 ∧ x2.setCell ⟨g, o + 2, none⟩ v2 = x3 ∧ x0.cell? ⟨g, o, none⟩ = some y0 ∧ x0.frozen? ⟨g, o, none⟩ = false ∧ x1.cell? ⟨g, o + 1, none⟩ = some y1 ∧ x1.frozen? ⟨g, o + 1, none⟩ = false ∧ x2.cell? ⟨g, o + 2, none⟩ = some y2 ∧ x2.frozen? ⟨g, o + 2, none⟩ = false ∧ Hid (Wrote x0 x3 g o [v0, v1, v2]) ∧ Hid (Ow x3 g e N) ∧ Hid (∀ B, B ≤ g → Below B x0 x3) := by
  have h1 := h0.setCell ⟨g, o, none⟩ v0
  have h2 := h1.setCell ⟨g, o + 1, none⟩ v1
  have h3 := h2.setCell ⟨g, o + 2, none⟩ v2
  obtain ⟨y0, c0⟩ := h0.cell (o) (by omega)
  obtain ⟨y1, c1⟩ := h1.cell (o + 1) (by omega)
  obtain ⟨y2, c2⟩ := h2.cell (o + 2) (by omega)
  have w0 := Wrote.nil x0 g o
  have w1 := w0.snoc h0 (o) (by simp) (by omega) v0
  have w2 := w1.snoc h1 (o + 1) (by simp) (by omega) v1
  have w3 := w2.snoc h2 (o + 2) (by simp) (by omega) v2
  exact ⟨_, _, _, y0, y1, y2, rfl, rfl, rfl, c0, h0.frozen _, c1, h1.frozen _, c2, h2.frozen _, w3, h3, fun B hB => ((((((Below.refl _ _).setCell (p := ⟨g, o, none⟩) hB v0)).setCell (p := ⟨g, o + 1, none⟩) hB v1)).setCell (p := ⟨g, o + 2, none⟩) hB v2)⟩
theorem Wrote.cellFar {w w' : World} {g o : Nat} {vs : List Value} {p : Addr} {v : Value} (h : Wrote w w' g o vs) (hc : w.cell? p = some v) (hne : p.block ≠ g) : w'.cell? p = some v := by
  rw [World.cell?_of_block (w := w) (h.far p.block hne)]; exact hc

theorem cellDrew {w : World} {p : Addr} {v : Value} (h : w.cell? p = some v) : w.drew.cell? p = some v := h

/-- what zzToSeps answers: a new list of the same. -/
def PostGs (s : Sl) (vs : Nat → Sl) (A : GC) (w : World) (e : Ending) (w' : World) : Prop :=
  ∃ (s' : Sl) (vs' : Nat → Sl), e = .returned (.slice s'.a s'.n s'.c) ∧ Grants w' s' vs' A ∧ s'.n = s.n ∧ (∀ i, i < s.n → (vs' i).n = (vs i).n) ∧ Below w.heap.size w w' ∧ (∀ b, s'.a.map Addr.block = some b → w.heap.size ≤ b) ∧ ∀ i, i < s.n → ∀ b, (vs' i).a.map Addr.block = some b → w.heap.size ≤ b

set_option maxRecDepth 100000 in
set_option maxHeartbeats 4000000 in
theorem w40 (s : Sl) (vs : Nat → Sl) (A : GC) (w : World) (hs : Grants w s vs A) (hm : SmallN s.n vs) : Calls Try.prog 40 #[.slice s.a s.n s.c] w (PostGs s vs A w) := by
  have HS := hid hs
  have HM := hid hm.2
  have hm1 := hm.1
  clear hs hm
  obtain ⟨a, n, c⟩ := s
  dsimp only at hm1 HM ⊢
  cases a with
  | none =>
    have h0 : n = 0 := by
      rcases HS.out with h | ⟨b, o, ha, _⟩
      · exact h
      · cases ha
    subst h0
    have hnil : ∀ w : World, (binOp .eql 26 (.slice none 0 c) (.slice none 0 0)).run Try.prog w = .ok (.bool true) w := fun w => Lib.run_eql_slice_nil w 26 _ none 0 c 0 0 Try.underlying26
    go_enter Try.func40, Try.ntmps40
    go_wp2
    go_ret
    exact ⟨⟨none, 0, 0⟩, vs, rfl, Or.inl rfl, rfl, fun i hi => rfl, Below.refl _ _, fun b hb => (by cases hb), fun i hi => absurd hi (Nat.not_lt_zero _)⟩
  | some x =>
    have hnil : ∀ w : World, (binOp .eql 26 (.slice (some x) n c) (.slice none 0 0)).run Try.prog w = .ok (.bool false) w := fun w => Lib.run_eql_slice_nil w 26 _ (some x) n c 0 0 Try.underlying26
    have hmk := fun w => make35 n hm1 w
    go_enter Try.func40, Try.ntmps40
    go_wp2
    go_loopw [4] (fun i wr => ∃ k : Nat, k ≤ n ∧ i = .int .i64 k ∧ Hid (Ow wr w.heap.size 104 (n * 6)) ∧ Hid (FstX 6 (GG A) wr w.heap.size k vs A.c) ∧ Hid (Below w.heap.size w wr)) (fun i _ => n - (intOf i).toNat)
    case atStart => exact ⟨0, Nat.zero_le _, rfl, ow_made w _ _ _, fstX_nil _ _ _ _ _ _, (Below.refl _ _).alloc (Nat.le_refl _) _⟩
    case round =>
      clear hmk hnil
      obtain ⟨k, hk, rfl, OW, FI, HB⟩ := hrel
      by_cases hlt : k < n
      · rcases HS.out with h | ⟨b, o, ha, hc⟩
        · exact absurd h (by dsimp only; omega)
        obtain ⟨f0, f1, f2, f3, f4, f5, fw⟩ := hc k hlt
        obtain rfl : x = ⟨b, o, none⟩ := by simpa using ha
        have hbl : b < w.heap.size := World.block_lt_of_cell? w _ f0
        have NB : Hid (b ≠ w.heap.size) := Nat.ne_of_lt hbl
        replace f0 := cellKeep HB.out f0
        replace f1 := cellKeep HB.out f1
        replace f2 := cellKeep HB.out f2
        replace f3 := cellKeep HB.out f3
        replace f4 := cellKeep HB.out f4
        replace f5 := cellKeep HB.out f5
        have FW := hid (fw.below HB.out (Nat.le_refl _))
        have VM := hid (HM.out k hlt)
        have i0 : (0 : Int) ≤ (k : Int) := by omega
        have i1 : (k : Int) < (n : Int) := by omega
        clear hc fw ha
        go_wp2_with fail
        go_region_held3 (fun w' => w'.cell? ⟨b, o + k * 6, none⟩ = some (.int .i64 (A.l0 k)) ∧ w'.cell? ⟨b, o + k * 6 + 1, none⟩ = some (.string (A.t1 k)) ∧ w'.cell? ⟨b, o + k * 6 + 2, none⟩ = some (.int .i64 (A.l1 k)) ∧
            w'.cell? ⟨b, o + k * 6 + 3, none⟩ = some (.slice (vs k).a (vs k).n (vs k).c) ∧ w'.cell? ⟨b, o + k * 6 + 4, none⟩ = some (.string (A.t2 k)) ∧ w'.cell? ⟨b, o + k * 6 + 5, none⟩ = some (.int .i64 (A.l2 k)))
          (first
            | with_reducible exact ⟨cellDrew f0, cellDrew f1, cellDrew f2, cellDrew f3, cellDrew f4, cellDrew f5⟩
            | (go_split_ands
               refine ⟨?_, ?_, ?_, ?_, ?_, ?_⟩
               iterate 6 (first | with_reducible exact cellKeep hb5 (by assumption) | with_reducible exact cellKeep hb4 (by assumption) | with_reducible exact cellKeep hb3 (by assumption) | with_reducible exact Wrote.cellFar wr6.out (by assumption) NB.out))
            | fail)
          (first
            | (go_at_call_of 39 (A.t1 k); refine (w39 _ _ _).mono ?_; rintro e w3 ⟨rfl, hb3⟩)
            | (go_at_call_of 39 (A.t2 k); refine (w39 _ _ _).mono ?_; rintro e w5 ⟨rfl, hb5⟩
               have ow5 := ((Ow.below (w := wr.drew) OW.out hb3 OW.out.lt).below hb4 (Nat.lt_of_lt_of_le OW.out.lt hb3.size)).below hb5 (Nat.lt_of_lt_of_le OW.out.lt (Nat.le_trans hb3.size hb4.size))
               obtain ⟨x1, x2, x3, x4, x5, w6, y0, y1, y2, y3, y4, y5, e1, e2, e3, e4, e5, e6, c0, z0, c1, z1, c2, z2, c3, z3, c4, z4, c5, z5, wr6, ow6, b6⟩ := store6 (o := k * 6) (.int .i64 (A.l0 k)) (.string (A.t1 k)) (.int .i64 (A.l1 k)) (.slice s'.a s'.n s'.c) (.string (A.t2 k)) (.int .i64 (A.l2 k)) ow5 (by omega)
               replace ow5 := hid ow5)
            | (go_at_call 38; refine (w38 (vs k) (A.c k) _ (Words.next hb3 FW.out) VM.out).mono ?_; rintro e w4 ⟨s', rfl, hl4, hw4, hb4, hfr4⟩; replace hl4 := hid hl4; replace hw4 := hid hw4; replace hfr4 := hid hfr4))
        have h3 : wr.heap.size ≤ w3.heap.size := hb3.size
        have h4 := hb4.size
        have hgl := OW.out.lt
        have b35 : Below wr.heap.size wr w5 := ((Below.refl wr.heap.size wr).drew.trans hb3).trans ((hb4.trans (hb5.mono h4)).mono h3)
        have HB6 : Hid (Below w.heap.size w w6) := (HB.out.trans (b35.mono HB.out.size)).trans (b6.out _ (Nat.le_refl _))
        have FI6 : Hid (FstX 6 (GG A) w6 w.heap.size (k + 1) vs A.c) := fstX_snoc (fun _ _ => rfl) (FI.out.below b35 (Nat.le_refl _)) wr6.out hl4.out (hw4.out.below hb5 (Nat.le_refl _)) (fun b hb => by have := hfr4.out b hb; omega)
        clear hb3 hb4 hb5 b35 h3 h4 hgl e1 e2 e3 e4 e5 e6 c0 z0 c1 z1 c2 z2 c3 z3 c4 z4 c5 z5 wr6 b6 hl4 hw4 hfr4 ow5 OW FI HB
        go_wp2
        go_roundw
        case rel => exact ⟨k + 1, by omega, by go_num, ow6, FI6, HB6⟩
        case measure => simp [intOf]; omega
      · obtain rfl : k = n := by omega
        obtain ⟨vs', e1, e2, e3⟩ := fstX_grants (c := k) FI.out
        have E1 := hid e1
        clear FI e1
        go_wp2
        go_ret
        exact ⟨⟨some ⟨w.heap.size, 0, none⟩, k, k⟩, vs', rfl, E1.out, rfl, e2, HB.out, fun b hb => (by cases hb; exact Nat.le_refl _), fun i hi b hb => Nat.le_of_lt (e3 i hi b hb)⟩
end Go.Proofs.Qxb6614661aR
