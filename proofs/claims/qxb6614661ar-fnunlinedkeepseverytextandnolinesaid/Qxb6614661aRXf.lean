import Derived.Test.Qxb6614661aRXe
namespace Go.Proofs.Qxb6614661aR
open Go.RowKit

def GC.bare (A : GC) : GC := ⟨fun _ => 0, A.t1, fun _ => 0, fun i => (A.c i).bare, A.t2, fun _ => 0⟩
def RC.bare (A : RC) : RC := ⟨A.t, fun _ => 0, fun i => (A.c i).bare⟩

theorem cellKeep {w w' : World} {p : Addr} {v : Value} (hb : Below w.heap.size w w') (h : w.cell? p = some v) : w'.cell? p = some v := by
  rw [hb.cell (World.block_lt_of_cell? w _ h)]; exact h
theorem Words.next {w w' : World} {s : Sl} {A : WC} (hb : Below w.heap.size w w') (h : Words w s A) : Words w' s A := h.below hb (Nat.le_refl _)

set_option maxRecDepth 100000 in
set_option maxHeartbeats 4000000 in
theorem w42 (s s' : Sl) (vs vs' : Nat → Sl) (A : GC) (w : World) (hs : Grants w s vs A) (hs' : Grants w s' vs' A.bare) (hn : s'.n = s.n) (hz : s.n = 0 → s' = ⟨none, 0, 0⟩)
    (hm : SmallN s.n vs) (hv : ∀ i, i < s.n → (vs' i).n = (vs i).n ∧ ((vs i).n = 0 → vs' i = ⟨none, 0, 0⟩)) :
    Calls Try.prog 42 #[.slice s.a s.n s.c, .slice s'.a s'.n s'.c] w (PostT w) := by
  obtain ⟨a, n, c⟩ := s
  obtain ⟨a', n', c'⟩ := s'
  dsimp only at hn hz hm hv ⊢
  subst hn
  by_cases h0 : n' = 0
  · obtain ⟨rfl, rfl, rfl⟩ := Sl.mk.inj (hz h0)
    clear hs hs' hz hm hv
    have hnil : ∀ w : World, (binOp .eql 35 (.slice none 0 0) (.slice none 0 0)).run Try.prog w = .ok (.bool true) w := fun w => Lib.run_eql_slice_nil w 35 _ none 0 0 0 0 Try.underlying35
    go_enter Try.func42, Try.ntmps42
    go_wp2
    go_ret
    exact ⟨rfl, Below.refl _ _⟩
  rcases hs with h | ⟨b, o, ha, hc⟩
  · exact absurd h h0
  rcases hs' with h | ⟨b', o', ha', hc'⟩
  · exact absurd h h0
  dsimp only at ha ha' hc hc'
  subst ha ha'
  have HC := hid hc
  have HC' := hid hc'
  have HV := hid hv
  have hm1 := hm.1
  have HM := hid hm.2
  have hne : ((n' : Int) == 0) = false := by simpa using h0
  clear hc hc' hz hv hm
  go_enter Try.func42, Try.ntmps42
  go_wp2
  go_loopw [5] (fun i wr => ∃ k : Nat, k ≤ n' ∧ i = .int .i64 k ∧ Hid (Below w.heap.size w wr)) (fun i _ => n' - (intOf i).toNat)
  case atStart => exact ⟨0, Nat.zero_le _, rfl, Below.refl _ _⟩
  case round =>
    obtain ⟨k, hk, rfl, HB⟩ := hrel
    by_cases hlt : k < n'
    · obtain ⟨_, f1, f2, f3, f4, f5, fw⟩ := HC.out k hlt
      obtain ⟨g0, g1, g2, g3, g4, g5, gw⟩ := HC'.out k hlt
      obtain ⟨v1, v2⟩ := HV.out k hlt
      have V1 := hid v1
      have V2 := hid v2
      have V3 := hid (HM.out k hlt)
      clear v1 v2
      have hsz := HB.out.size
      have g0' : wr.cell? ⟨b', o' + k * 6, none⟩ = some (.int .i64 0) := by rw [HB.out.cell (World.block_lt_of_cell? w _ g0)]; exact g0
      have g1' : wr.cell? ⟨b', o' + k * 6 + 1, none⟩ = some (.string (A.t1 k)) := by rw [HB.out.cell (World.block_lt_of_cell? w _ g1)]; exact g1
      have g2' : wr.cell? ⟨b', o' + k * 6 + 2, none⟩ = some (.int .i64 0) := by rw [HB.out.cell (World.block_lt_of_cell? w _ g2)]; exact g2
      have g3' : wr.cell? ⟨b', o' + k * 6 + 3, none⟩ = some (.slice (vs' k).a (vs' k).n (vs' k).c) := by rw [HB.out.cell (World.block_lt_of_cell? w _ g3)]; exact g3
      have g4' : wr.cell? ⟨b', o' + k * 6 + 4, none⟩ = some (.string (A.t2 k)) := by rw [HB.out.cell (World.block_lt_of_cell? w _ g4)]; exact g4
      have g5' : wr.cell? ⟨b', o' + k * 6 + 5, none⟩ = some (.int .i64 0) := by rw [HB.out.cell (World.block_lt_of_cell? w _ g5)]; exact g5
      obtain ⟨w2, hw2⟩ : ∃ w2, wr.alloc (Obj.cells #[.int .i64 0, .string (A.t1 k), .int .i64 0, .slice (vs' k).a (vs' k).n (vs' k).c, .string (A.t2 k), .int .i64 0] 104) = w2 := ⟨_, rfl⟩
      have B2 : Below w.heap.size w w2 := by rw [← hw2]; exact HB.out.alloc hsz _
      have hq : w2.heap[wr.heap.size]? = some (Obj.cells #[.int .i64 0, .string (A.t1 k), .int .i64 0, .slice (vs' k).a (vs' k).n (vs' k).c, .string (A.t2 k), .int .i64 0] 104) := by rw [← hw2]; exact heap_alloc_new wr _
      have q0 : w2.cell? ⟨wr.heap.size, 0, none⟩ = some (.int .i64 0) := by rw [cell_of_row w2 _ 0 _ _ _ hq]; rfl
      have q1 : w2.cell? ⟨wr.heap.size, 1, none⟩ = some (.string (A.t1 k)) := by rw [cell_of_row w2 _ 1 _ _ _ hq]; rfl
      have q2 : w2.cell? ⟨wr.heap.size, 2, none⟩ = some (.int .i64 0) := by rw [cell_of_row w2 _ 2 _ _ _ hq]; rfl
      have q3 : w2.cell? ⟨wr.heap.size, 3, none⟩ = some (.slice (vs' k).a (vs' k).n (vs' k).c) := by rw [cell_of_row w2 _ 3 _ _ _ hq]; rfl
      have q4 : w2.cell? ⟨wr.heap.size, 4, none⟩ = some (.string (A.t2 k)) := by rw [cell_of_row w2 _ 4 _ _ _ hq]; rfl
      have q5 : w2.cell? ⟨wr.heap.size, 5, none⟩ = some (.int .i64 0) := by rw [cell_of_row w2 _ 5 _ _ _ hq]; rfl
      have f1' : w2.cell? ⟨b, o + k * 6 + 1, none⟩ = some (.string (A.t1 k)) := by rw [B2.cell (World.block_lt_of_cell? w _ f1)]; exact f1
      have f2' : w2.cell? ⟨b, o + k * 6 + 2, none⟩ = some (.int .i64 (A.l1 k)) := by rw [B2.cell (World.block_lt_of_cell? w _ f2)]; exact f2
      have f3' : w2.cell? ⟨b, o + k * 6 + 3, none⟩ = some (.slice (vs k).a (vs k).n (vs k).c) := by rw [B2.cell (World.block_lt_of_cell? w _ f3)]; exact f3
      have f4' : w2.cell? ⟨b, o + k * 6 + 4, none⟩ = some (.string (A.t2 k)) := by rw [B2.cell (World.block_lt_of_cell? w _ f4)]; exact f4
      have f5' : w2.cell? ⟨b, o + k * 6 + 5, none⟩ = some (.int .i64 (A.l2 k)) := by rw [B2.cell (World.block_lt_of_cell? w _ f5)]; exact f5
      have fw' : Words w2 (vs k) (A.c k) := fw.below B2 (Nat.le_refl _)
      have gw' : Words w2 (vs' k) (A.c k).bare := gw.below B2 (Nat.le_refl _)
      have i0 : (0 : Int) ≤ (k : Int) := by omega
      have i1 : (k : Int) < (n' : Int) := by omega
      have HB2 := hid B2
      have HW2 := hid hw2
      clear f1 f2 f3 f4 f5 fw g0 g1 g2 g3 g4 g5 gw B2 hq hw2
      go_wp2_with fail
      rw [HW2.out]
      go_region_held3 (fun w' => w'.cell? ⟨wr.heap.size, 0, none⟩ = some (.int .i64 0) ∧ w'.cell? ⟨wr.heap.size, 1, none⟩ = some (.string (A.t1 k)) ∧ w'.cell? ⟨wr.heap.size, 2, none⟩ = some (.int .i64 0) ∧
          w'.cell? ⟨wr.heap.size, 3, none⟩ = some (.slice (vs' k).a (vs' k).n (vs' k).c) ∧ w'.cell? ⟨wr.heap.size, 4, none⟩ = some (.string (A.t2 k)) ∧ w'.cell? ⟨wr.heap.size, 5, none⟩ = some (.int .i64 0) ∧
          w'.cell? ⟨b, o + k * 6 + 1, none⟩ = some (.string (A.t1 k)) ∧ w'.cell? ⟨b, o + k * 6 + 2, none⟩ = some (.int .i64 (A.l1 k)) ∧ w'.cell? ⟨b, o + k * 6 + 3, none⟩ = some (.slice (vs k).a (vs k).n (vs k).c) ∧
          w'.cell? ⟨b, o + k * 6 + 4, none⟩ = some (.string (A.t2 k)) ∧ w'.cell? ⟨b, o + k * 6 + 5, none⟩ = some (.int .i64 (A.l2 k)) ∧ Words w' (vs k) (A.c k) ∧ Words w' (vs' k) (A.c k).bare ∧ Hid (Below w.heap.size w w'))
        (first
          | exact ⟨q0, q1, q2, q3, q4, q5, f1', f2', f3', f4', f5', fw', gw', HB2.out.drew⟩
          | (go_split_ands
             refine ⟨?_, ?_, ?_, ?_, ?_, ?_, ?_, ?_, ?_, ?_, ?_, ?_, ?_, ?_⟩
             iterate 11 (first | exact cellKeep hb2 (by assumption) | assumption)
             · first | exact Words.next hb2 (by assumption) | assumption
             · first | exact Words.next hb2 (by assumption) | assumption
             · first | exact Below.trans (by assumption) (Below.mono hb2 (Below.size (by assumption))) | assumption)
          | go_keep)
        (first
          | (go_at_call 43; refine (w43 _ _ _).mono ?_; rintro e w3 ⟨rfl, hb2⟩)
          | (go_at_call 41; go_split_ands; refine (w41 (vs k) (vs' k) (A.c k) _ (by assumption) (by assumption) V1.out V2.out V3.out).mono ?_; rintro e w3 ⟨rfl, hb2⟩))
      have HB3 : Hid (Below w.heap.size w w3) := by
        go_split_ands
        assumption
      clear hb2
      go_wp2
      go_roundw
      case rel => exact ⟨k + 1, by omega, by go_num, HB3⟩
      case measure => simp [intOf]; omega
    · go_wp2
      go_ret
      exact ⟨rfl, HB.out⟩

end Go.Proofs.Qxb6614661aR
