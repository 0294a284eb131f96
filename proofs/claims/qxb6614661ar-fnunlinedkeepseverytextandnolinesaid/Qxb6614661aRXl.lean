import Derived.Test.Qxb6614661aRXk
import Derived.Deep.DrawnRows
namespace Go.Proofs.Qxb6614661aR
open Go.RowKit
attribute [local go_sem ↓] Go.wp_at_zero Go.wp_at_succ

theorem cellDrew' {w : World} {p : Addr} {v : Value} (h : w.cell? p = some v) : w.drew.cell? p = some v := h

def PostGn (s : Sl) (vs : Nat → Sl) (A : GC) (w : World) (e : Ending) (w' : World) : Prop :=
  ∃ (s' : Sl) (vs' : Nat → Sl), e = .returned (.slice s'.a s'.n s'.c) ∧ Grants w' s' vs' A.bare ∧ Ans w' w.heap.size s s' vs vs' ∧ Below w.heap.size w w'

set_option maxRecDepth 100000 in
set_option maxHeartbeats 4000000 in
theorem w57 (s : Sl) (vs : Nat → Sl) (A : GC) (wb wsb : Nat) (w : World) (hs : Grants w s vs A) (hm : SmallN s.n vs) (hf : w.cell? ⟨wb, 0, none⟩ = some (.func (.func 55) #[] #[]))
    (hg : w.cell? ⟨wsb, 0, none⟩ = some (.func (.func 56) #[] #[.pointer (some ⟨wb, 0, none⟩)])) :
    Calls Try.prog 57 #[.slice s.a s.n s.c, .pointer (some ⟨wb, 0, none⟩), .pointer (some ⟨wsb, 0, none⟩)] w (PostGn s vs A w) := by
  obtain ⟨ti, hi0, hz0, hz1, hz2⟩ := info_parts info104
  have HI := hid hi0
  have HZ0 := hid hz0
  have HZ1 := hid hz1
  have HZ2 := hid hz2
  clear hi0 hz0 hz1 hz2
  have HS := hid hs
  have HF := hid hf
  have HG := hid hg
  have lf : wb < w.heap.size := World.block_lt_of_cell? w _ hf
  have lg : wsb < w.heap.size := World.block_lt_of_cell? w _ hg
  have HM := hid hm.2
  have hm1 := hm.1
  clear hs hf hg hm
  obtain ⟨a, n, c⟩ := s
  dsimp only at hm1 HM ⊢
  go_enter Try.func57, Try.ntmps57
  go_wp2
  go_loopw [5, 10] (fun v i wr => ∃ k : Nat, k ≤ n ∧ i = .int .i64 k ∧ Hid (OutX 104 6 (FG A) wr w.heap.size v k vs A.c) ∧ Hid (Below w.heap.size w wr)) (fun _ i _ => n - (intOf i).toNat)
  case atStart => exact ⟨0, Nat.zero_le _, rfl, outX_nil _ _ _ _ _ _ _, Below.refl _ _⟩
  case round =>
    obtain ⟨k, hk, rfl, OU, HB⟩ := hrel
    by_cases hlt : k < n
    · rcases HS.out with h | ⟨b, o, ha, hc⟩
      · exact absurd h (by dsimp only; omega)
      obtain ⟨f0, f1, f2, f3, f4, f5, fw⟩ := hc k hlt
      dsimp only at ha
      subst ha
      have hsz : w.heap.size ≤ wr.heap.size := HB.out.size
      replace f0 := cellKeep HB.out f0
      replace f1 := cellKeep HB.out f1
      replace f2 := cellKeep HB.out f2
      replace f3 := cellKeep HB.out f3
      replace f4 := cellKeep HB.out f4
      replace f5 := cellKeep HB.out f5
      have bx : Below wr.heap.size wr (wr.alloc (Obj.cells #[.int .i64 (A.l0 k), .string (A.t1 k), .int .i64 (A.l1 k), .slice (vs k).a (vs k).n (vs k).c, .string (A.t2 k), .int .i64 (A.l2 k)] 104)) := (Below.refl _ _).alloc (Nat.le_refl _) _
      have hq := heap_alloc_new wr (Obj.cells #[.int .i64 (A.l0 k), .string (A.t1 k), .int .i64 (A.l1 k), .slice (vs k).a (vs k).n (vs k).c, .string (A.t2 k), .int .i64 (A.l2 k)] 104)
      obtain ⟨w2, hw2⟩ : ∃ w2, wr.alloc (Obj.cells #[.int .i64 (A.l0 k), .string (A.t1 k), .int .i64 (A.l1 k), .slice (vs k).a (vs k).n (vs k).c, .string (A.t2 k), .int .i64 (A.l2 k)] 104) = w2 := ⟨_, rfl⟩
      rw [hw2] at bx hq
      have HW2 := hid hw2
      have B2 : Below w.heap.size w w2 := HB.out.trans (bx.mono hsz)
      have q1 : w2.cell? ⟨wr.heap.size, 1, none⟩ = some (.string (A.t1 k)) := by rw [cell_of_row w2 _ 1 _ _ _ hq]; rfl
      have q2 : w2.cell? ⟨wr.heap.size, 2, none⟩ = some (.int .i64 (A.l1 k)) := by rw [cell_of_row w2 _ 2 _ _ _ hq]; rfl
      have q3 : w2.cell? ⟨wr.heap.size, 3, none⟩ = some (.slice (vs k).a (vs k).n (vs k).c) := by rw [cell_of_row w2 _ 3 _ _ _ hq]; rfl
      have q4 : w2.cell? ⟨wr.heap.size, 4, none⟩ = some (.string (A.t2 k)) := by rw [cell_of_row w2 _ 4 _ _ _ hq]; rfl
      have q5 : w2.cell? ⟨wr.heap.size, 5, none⟩ = some (.int .i64 (A.l2 k)) := by rw [cell_of_row w2 _ 5 _ _ _ hq]; rfl
      have qf : w2.cell? ⟨wb, 0, none⟩ = some (.func (.func 55) #[] #[]) := cellKeep B2 HF.out
      have qg : w2.cell? ⟨wsb, 0, none⟩ = some (.func (.func 56) #[] #[.pointer (some ⟨wb, 0, none⟩)]) := cellKeep B2 HG.out
      have FW := hid (fw.below B2 (Nat.le_refl _))
      have VM := hid (HM.out k hlt)
      obtain ⟨hv0, vs', xs, hown, hx⟩ := OU.out
      have hlen : xs.length = k * 6 := hown.1
      have HO := hid (ownsRow_below hown bx (Nat.le_refl _))
      have HX : Hid (∀ j, j < k → (∀ i, i < 6 → xs[j * 6 + i]? = (FG A j (vs' j))[i]?) ∧ InW w2 w.heap.size u5.ownBlock (vs j) (vs' j) (A.c j)) := fun j hj => ⟨(hx j hj).1, (hx j hj).2.below bx (Nat.le_refl _)⟩
      have HLO : Hid (∀ b, u5.ownBlock = some b → w.heap.size ≤ b ∧ b < wr.heap.size) := fun b hb => hown.lt b hb
      have nb1 : some wb ≠ u5.ownBlock := fun e => by have := (HLO.out wb e.symm).1; omega
      have nb2 : some wsb ≠ u5.ownBlock := fun e => by have := (HLO.out wsb e.symm).1; omega
      have nb3 : some wr.heap.size ≠ u5.ownBlock := fun e => by have := (HLO.out wr.heap.size e.symm).2; omega
      have NB1 := hid nb1
      have NB2 := hid nb2
      have NB3 := hid nb3
      have sz2 : wr.heap.size + 1 = w2.heap.size := by rw [← hw2]; simp
      have SZ2 := hid sz2
      have HB2 := hid B2
      have i0 : (0 : Int) ≤ (k : Int) := by omega
      have i1 : (k : Int) < (n : Int) := by omega
      clear hc fw OU hx hown bx hq hw2 B2 nb1 nb2 nb3 sz2 hv0
      go_wp2_with fail
      rw [HW2.out]
      go_region_held3 (fun w' => w'.cell? ⟨wr.heap.size, 1, none⟩ = some (.string (A.t1 k)) ∧ w'.cell? ⟨wr.heap.size, 2, none⟩ = some (.int .i64 (A.l1 k)) ∧ w'.cell? ⟨wr.heap.size, 3, none⟩ = some (.slice (vs k).a (vs k).n (vs k).c) ∧
          w'.cell? ⟨wr.heap.size, 4, none⟩ = some (.string (A.t2 k)) ∧ w'.cell? ⟨wr.heap.size, 5, none⟩ = some (.int .i64 (A.l2 k)) ∧ w'.cell? ⟨wb, 0, none⟩ = some (.func (.func 55) #[] #[]) ∧ w'.cell? ⟨wsb, 0, none⟩ = some (.func (.func 56) #[] #[.pointer (some ⟨wb, 0, none⟩)]))
        (first
          | with_reducible exact ⟨cellDrew' q1, cellDrew' q2, cellDrew' q3, cellDrew' q4, cellDrew' q5, cellDrew' qf, cellDrew' qg⟩
          | (go_split_ands
             refine ⟨?_, ?_, ?_, ?_, ?_, ?_, ?_⟩
             iterate 5 (first | with_reducible exact growKeep hgrow (by assumption) NB3.out | with_reducible exact allocKeep (by assumption) | with_reducible exact cellKeep hb5 (by assumption) | with_reducible exact cellKeep hb4 (by assumption) | with_reducible exact cellKeep hb3 (by assumption))
             · first | with_reducible exact growKeep hgrow (by assumption) NB1.out | with_reducible exact allocKeep (by assumption) | with_reducible exact cellKeep hb5 (by assumption) | with_reducible exact cellKeep hb4 (by assumption) | with_reducible exact cellKeep hb3 (by assumption)
             · first | with_reducible exact growKeep hgrow (by assumption) NB2.out | with_reducible exact allocKeep (by assumption) | with_reducible exact cellKeep hb5 (by assumption) | with_reducible exact cellKeep hb4 (by assumption) | with_reducible exact cellKeep hb3 (by assumption))
          | go_keep)
        (first
          | (go_at_call_of 55 (A.t1 k); refine (w55 _ _ _).mono ?_; rintro e w3 ⟨rfl, hb3⟩)
          | (go_at_call_of 55 (A.t2 k); refine (w55 _ _ _).mono ?_; rintro e w5 ⟨rfl, hb5⟩)
          | (go_at_call 56; refine (w56 (vs k) (A.c k) wb _ (Words.next hb3 FW.out) VM.out (by go_split_ands; assumption)).mono ?_; rintro e w4 ⟨s', rfl, hl4, hw4, hb4, hfr4⟩; replace hl4 := hid hl4; replace hw4 := hid hw4; replace hfr4 := hid hfr4)
          | (refine step_append_lies _ (by rfl) _ _ 35 (by rfl) w.heap.size 104 ti _ 6 80 Try.underlying35 HI.out HZ0.out HZ1.out HZ2.out rfl (by decide) u5 k xs (by rfl)
              ((ownsRow_below (ownsRow_below (ownsRow_below HO.out.drew hb3 (Nat.le_refl _)) hb4 (Nat.le_refl _)) hb5 (Nat.le_refl _)).alloc _)
              ⟨w5.heap.size, 0, none⟩ 1 1 [.int .i64 0, .string (A.t1 k), .int .i64 0, .slice s'.a s'.n s'.c, .string (A.t2 k), .int .i64 0] (by rfl) (by rfl)
              (World.news_of_block (cs := #[.int .i64 0, .string (A.t1 k), .int .i64 0, .slice s'.a s'.n s'.c, .string (A.t2 k), .int .i64 0]) (t := 104) (fr := (0, 0)) (heap_alloc_new w5 _)) (by simp [Value.oneCell'])
              (by omega) (by unfold maxLen; omega) (by omega) (by have h3 : w2.heap.size ≤ w3.heap.size := hb3.size; have h4 := hb4.size; have h5 := hb5.size; have := SZ2.out; simp; omega) (w5.heap.size + 1) (by simp) ?_; intro g cap w6 hown6 hgrow hat hlt6))
      have h3 : w2.heap.size ≤ w3.heap.size := hb3.size
      have h4 := hb4.size
      have h5 := hb5.size
      have h2 := SZ2.out
      have b35 : Below w2.heap.size w2 w5 := ((Below.refl w2.heap.size w2).drew.trans hb3).trans ((hb4.trans (hb5.mono h4)).mono h3)
      have HB6 : Hid (Below w.heap.size w w6) := (((HB2.out.trans (b35.mono (by omega))).alloc (by omega) _).grown hgrow (by simp; omega) (fun b hb => (HLO.out b hb).1))
      have hnew : InW w5 w.heap.size u5.ownBlock (vs k) s' (A.c k) := ⟨hl4.out, hw4.out.below hb5 (Nat.le_refl _), fun b hb => by
        have hbb := hfr4.out b hb
        refine ⟨by omega, ?_, fun e => by have := (HLO.out b e.symm).2; omega⟩
        rcases hw4.out with hn0 | ⟨b1, o1, ha1, hc1⟩
        · rw [hl4.out.2 (by have := hl4.out.1; omega)] at hb
          cases hb
        · by_cases hn0 : s'.n = 0
          · rw [hl4.out.2 (by have := hl4.out.1; omega)] at hb
            cases hb
          · have hb1 : b1 < w4.heap.size := World.block_lt_of_cell? w4 _ (hc1 0 (by omega)).1
            rw [ha1] at hb
            have hbe : b1 = b := by simpa using hb
            omega⟩
      have al : Below w5.heap.size w5 (w5.alloc (Obj.cells #[.int .i64 0, .string (A.t1 k), .int .i64 0, .slice s'.a s'.n s'.c, .string (A.t2 k), .int .i64 0] 104)) := (Below.refl _ _).alloc (Nat.le_refl _) _
      have OU6 : Hid (OutX 104 6 (FG A) w6 w.heap.size (.slice (some ⟨g, 0, none⟩) (k + 1) cap) (k + 1) vs A.c) :=
        outX_snoc hlen (fun j hj => ⟨(HX.out j hj).1, ((HX.out j hj).2.below b35 (Nat.le_refl _)).below al (Nat.le_refl _)⟩) (hnew.below al (Nat.le_refl _)) hgrow (hat.imp id (fun h => by rw [h]; simp)) hown6
      clear hown6 hgrow hat hlt6 hnew al hb3 hb4 hb5 b35 h3 h4 h5
      go_wp2
      go_roundw
      case rel => exact ⟨k + 1, by omega, by go_num, OU6, HB6⟩
      case measure => simp [intOf]; omega
    · obtain rfl : k = n := by omega
      obtain ⟨s', vs', rfl, e1, e2⟩ := outX_grants (s := ⟨a, k, c⟩) OU.out
      have E1 := hid e1
      have E2 := hid e2
      clear OU e1 e2
      go_wp2
      go_ret
      exact ⟨s', vs', rfl, E1.out, E2.out, HB.out⟩
end Go.Proofs.Qxb6614661aR
