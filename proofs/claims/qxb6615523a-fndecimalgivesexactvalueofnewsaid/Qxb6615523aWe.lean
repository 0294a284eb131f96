import Derived.Test.Qxb6615523aWd
namespace Go.Proofs.Qxb6615523a
open Go.RowKit

set_option maxHeartbeats 400000 in
theorem w25s (q : Nat) (w : World) : Calls Try.prog 25 #[.pointer (some ⟨q, 0, none⟩), .pointer (some ⟨q, 0, none⟩)] w fun e w' => e = .returned (.pointer (some ⟨q, 0, none⟩)) ∧ w = w' := by
  have hneq := fun w => neq_same ⟨q, 0, none⟩ w
  go_enter Try.func25, Try.ntmps25
  go_wp2
  go_ret
  exact ⟨rfl, rfl⟩

theorem Big.turn {w : World} {C p : Nat} {sg : Bool} {m : Int} (h : Big w C p sg m) (sg' : Bool) : Big (w.setCell ⟨p, 0, none⟩ (.bool sg')) C p sg' m := by
  obtain ⟨h0, a, n, c, hh, hr⟩ := h
  refine ⟨h0, a, n, c, heap_setCell_same w p 0 _ 51 (.bool sg') hh, ?_⟩
  rcases hr with hr | ⟨h1, h2, g, o, h3, h4, h5, h6, h7⟩
  · exact Or.inl hr
  · refine Or.inr ⟨h1, h2, g, o, h3, h4, h5, by simpa [World.setCell] using h6, ?_⟩
    rw [World.cell?_of_block (w := w) (Below.heap_setCell _ _ _ _ (show g ≠ p from h4))]
    exact h7

/-- what a walk reads of a big.Int. -/
theorem Big.cells {w : World} {C p : Nat} {sg : Bool} {m : Int} (h : Big w C p sg m) : ∃ (a : Option Addr) (n c : Nat), w.cell? ⟨p, 0, none⟩ = some (.bool sg) ∧ w.cell? ⟨p, 1, none⟩ = some (.slice a n c) ∧
    (∀ j, w.frozen? ⟨p, j, none⟩ = false) ∧ p < w.heap.size ∧ ((m = 0 ∧ n = 0) ∨ (m ≠ 0 ∧ n = 1 ∧ ∃ g o, a = some ⟨g, o, none⟩ ∧ w.cell? ⟨g, o, none⟩ = some (.int .u64 m))) := by
  obtain ⟨h0, a, n, c, hh, hr⟩ := h
  refine ⟨a, n, c, by rw [cell_of hh]; rfl, by rw [cell_of hh]; rfl, fun j => free_of hh j, lt_of hh, ?_⟩
  rcases hr with hr | ⟨h1, h2, g, o, h3, _, _, _, h7⟩
  · exact Or.inl hr
  · exact Or.inr ⟨h1, h2, g, o, h3, h7⟩

set_option maxHeartbeats 400000 in
theorem w22 (q : Nat) (m : Int) (w : World) (hm : m ≠ 0) (hb : Big w q q false m) :
    Calls Try.prog 22 #[.pointer (some ⟨q, 0, none⟩), .pointer (some ⟨q, 0, none⟩)] w fun e w' => e = .returned (.pointer (some ⟨q, 0, none⟩)) ∧ w' = w.setCell ⟨q, 0, none⟩ (.bool true) := by
  obtain ⟨a, n, c, q0, q1, hf, hl, ⟨h, _⟩ | ⟨_, rfl, _⟩⟩ := hb.cells
  · exact absurd h hm
  have H25 := w25s q w
  clear hb hm
  go_enter Try.func22, Try.ntmps22
  go_wp2_with (go_at_call 25; refine H25.mono ?_; rintro e w2 ⟨rfl, rfl⟩)
  go_ret
  exact ⟨rfl, rfl⟩

set_option maxHeartbeats 400000 in
theorem w23 (p B : Nat) (x : Int) (sg : Bool) (m : Int) (w : World) (hb : Big w B p sg m) : Calls Try.prog 23 #[.pointer (some ⟨p, 0, none⟩), .int .i32 x] w (GivesDec sg m x w) := by
  have lp : p < w.heap.size := by obtain ⟨_, _, _, _, hh, _⟩ := hb; exact lt_of hh
  have H25 := w25 (w.heap.size + 1) p sg m ((w.alloc (.cells #[.pointer none, .int .i32 0] 37)).alloc (.cells #[.bool false, .slice none 0 0] 51)) (by omega)
    (by simpa using heap_alloc_new (w.alloc (.cells #[.pointer none, .int .i32 0] 37)) (.cells #[.bool false, .slice none 0 0] 51)) B ((hb.alloc _).alloc _)
  clear hb
  go_enter Try.func23, Try.ntmps23
  go_wp2_with fail
  refine H25.mono ?_
  rintro e w1 ⟨rfl, h1, h3⟩
  have hn : w1.heap[w.heap.size]? = some (.cells #[.pointer none, .int .i32 0] 37 (0, 0)) := by
    rw [h3.block w.heap.size (by omega), Below.heap_alloc _ _ _ (by simp)]
    exact heap_alloc_new w _
  have hz : w.heap.size < w1.heap.size := lt_of hn
  have c0 : w1.cell? ⟨w.heap.size, 0, none⟩ = some (.pointer none) := by rw [cell_of hn]; rfl
  have c1 : w1.cell? ⟨w.heap.size, 1, none⟩ = some (.int .i32 0) := by rw [cell_of hn]; rfl
  have f0 := free_of hn 0
  have f1 := free_of hn 1
  have HB : Hid (Below w.heap.size w w1) := (((Below.refl _ _).alloc (Nat.le_refl _) _).alloc (by simp) _).trans (h3.mono (by omega))
  have H2 := hid (((h1.setCell w.heap.size 0 (.pointer (some ⟨w.heap.size + 1, 0, none⟩)) (by omega)).setCell w.heap.size 1 (.int .i32 x) (by omega)).mono (D := w.heap.size) (by omega))
  clear h1 h3 hn H25
  go_wp2_with fail
  exact bodyPost_ret (v := .agg #[.pointer (some ⟨w.heap.size + 1, 0, none⟩), .int .i32 x]) (by simp [results, Try.results23, go_sem, c0, c1]) rfl
    ⟨w.heap.size + 1, rfl, H2.out, (HB.out.setCell (p := ⟨w.heap.size, 0, none⟩) (Nat.le_refl _) _).setCell (p := ⟨w.heap.size, 1, none⟩) (Nat.le_refl _) _⟩

end Go.Proofs.Qxb6615523a
