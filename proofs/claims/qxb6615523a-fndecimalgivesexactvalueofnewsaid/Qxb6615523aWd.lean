import Derived.Test.Qxb6615523aWc
namespace Go.Proofs.Qxb6615523a
open Go.RowKit

set_option maxHeartbeats 400000 in
theorem w36 (g : Nat) (lo : Int) (w : World) (hlo : (lo == 0) = false) (c0 : w.cell? ⟨g, 0, none⟩ = some (.int .u64 lo)) (c1 : w.cell? ⟨g, 1, none⟩ = some (.int .u64 0)) :
    Calls Try.prog 36 #[.slice (some ⟨g, 0, none⟩) 2 2] w fun e w' => e = .returned (.slice (some ⟨g, 0, none⟩) 1 2) ∧ w' = w := by
  go_enter Try.func36, Try.ntmps36
  go_wp2
  go_loop [3] (fun i => i = .int .i64 2 ∨ i = .int .i64 1) (fun i => (intOf i).toNat)
  case atStart => exact Or.inl rfl
  case round =>
    rcases hrel with rfl | rfl
    · go_wp2
      go_round
      case rel => exact Or.inr rfl
      case measure => simp [intOf]
    · go_wp2
      go_ret
      exact ⟨rfl, rfl⟩

set_option maxHeartbeats 400000 in
theorem w34 (q g : Nat) (lo : Int) (sq : Bool) (w : World) (hlo : (lo == 0) = false) (hq : w.heap[q]? = some (.cells #[.bool sq, .slice none 0 0] 51 (0, 0)))
    (c0 : w.cell? ⟨g, 0, none⟩ = some (.int .u64 lo)) (c1 : w.cell? ⟨g, 1, none⟩ = some (.int .u64 0)) :
    Calls Try.prog 34 #[.pointer (some ⟨q, 0, none⟩), .slice (some ⟨g, 0, none⟩) 2 2] w fun e w' => e = .returned (.pointer (some ⟨q, 0, none⟩)) ∧
      w' = (w.setCell ⟨q, 1, none⟩ (.slice (some ⟨g, 0, none⟩) 1 2)).setCell ⟨q, 0, none⟩ (.bool false) := by
  have H36 := (w36 g lo w hlo c0 c1).mono (fun e w' h => (⟨h.1, h.2.symm⟩ : e = _ ∧ w = w'))
  have q0 : w.cell? ⟨q, 0, none⟩ = some (.bool sq) := by rw [cell_of hq]; rfl
  have q1 : w.cell? ⟨q, 1, none⟩ = some (.slice none 0 0) := by rw [cell_of hq]; rfl
  have f0 := free_of hq 0
  have f1 := free_of hq 1
  clear hq c0 c1
  go_enter Try.func34, Try.ntmps34
  go_wp2_with (go_at_call 36; refine H36.mono ?_; rintro e w2 ⟨rfl, rfl⟩)
  go_ret
  exact ⟨rfl, rfl⟩

set_option maxHeartbeats 400000 in
theorem w21 (q : Nat) (lo : Int) (w : World) (hlo : (lo == 0) = false) (h0 : 0 ≤ lo) (hq : w.heap[q]? = some (.cells #[.bool false, .slice none 0 0] 51 (0, 0))) :
    Calls Try.prog 21 #[.agg #[.int .u64 0, .int .u64 lo], .pointer (some ⟨q, 0, none⟩)] w fun e w' => e = .returned (.pointer (some ⟨q, 0, none⟩)) ∧
      Big w' q q false lo ∧ Below q w w' := by
  have lq := lt_of hq
  have hlo0 : lo ≠ 0 := by intro h; subst h; simp at hlo
  have hq2 : ((w.alloc (.cells #[.int .u64 0, .int .u64 lo] 24)).alloc (.cells #[.int .u64 lo, .int .u64 0] 57)).heap[q]? = some (.cells #[.bool false, .slice none 0 0] 51 (0, 0)) := by
    rw [Below.heap_alloc _ _ _ (by simp; omega), Below.heap_alloc _ _ _ lq]; exact hq
  have hres : ∀ w2, w2 = (((w.alloc (.cells #[.int .u64 0, .int .u64 lo] 24)).alloc (.cells #[.int .u64 lo, .int .u64 0] 57)).setCell ⟨q, 1, none⟩ (.slice (some ⟨w.heap.size + 1, 0, none⟩) 1 2)).setCell ⟨q, 0, none⟩ (.bool false) →
      Big w2 q q false lo ∧ Below q w w2 := by
    rintro w2 rfl
    have h1 := heap_setCell_same _ q 1 _ 51 (.slice (some ⟨w.heap.size + 1, 0, none⟩) 1 2) hq2
    have h2 := heap_setCell_same _ q 0 _ 51 (.bool false) h1
    refine ⟨⟨Nat.le_refl _, some ⟨w.heap.size + 1, 0, none⟩, 1, 2, h2, Or.inr ⟨hlo0, rfl, w.heap.size + 1, 0, rfl, by omega, by omega, by simp [World.setCell], ?_⟩⟩, ?_⟩
    · rw [World.cell?_of_block (w := (w.alloc (.cells #[.int .u64 0, .int .u64 lo] 24)).alloc (.cells #[.int .u64 lo, .int .u64 0] 57)) (by
        rw [Below.heap_setCell _ _ _ _ (show w.heap.size + 1 ≠ q by omega), Below.heap_setCell _ _ _ _ (show w.heap.size + 1 ≠ q by omega)])]
      simp
    · exact (((Below.refl q w).alloc (by omega) _).alloc (by simp; omega) _).trans (below2 _ q _ _)
  have HRES := hid hres
  clear hres
  have H34 := w34 q (w.heap.size + 1) lo false ((w.alloc (.cells #[.int .u64 0, .int .u64 lo] 24)).alloc (.cells #[.int .u64 lo, .int .u64 0] 57)) hlo
    hq2 (by simp) (by simp)
  clear hq hq2
  go_enter Try.func21, Try.ntmps21
  go_wp2
  go_loopw [8] (fun i wr => (i = .int .i64 0 ∧ wr = (w.alloc (.cells #[.int .u64 0, .int .u64 lo] 24)).alloc (.cells #[.int .u64 0, .int .u64 0] 57)) ∨
    (i = .int .i64 1 ∧ wr = (w.alloc (.cells #[.int .u64 0, .int .u64 lo] 24)).alloc (.cells #[.int .u64 lo, .int .u64 0] 57)) ∨
    (i = .int .i64 2 ∧ wr = (w.alloc (.cells #[.int .u64 0, .int .u64 lo] 24)).alloc (.cells #[.int .u64 lo, .int .u64 0] 57))) (fun i _ => 2 - (intOf i).toNat)
  case atStart => exact Or.inl ⟨rfl, rfl⟩
  case round =>
    rcases hrel with ⟨rfl, rfl⟩ | ⟨rfl, rfl⟩ | ⟨rfl, rfl⟩
    · go_wp2
      go_roundw
      case rel => simp
      case measure => simp [intOf]
    · go_wp2
      go_roundw
      case rel => simp
      case measure => simp [intOf]
    · go_wp2_with fail
      refine H34.mono ?_
      rintro e w2 ⟨rfl, hw2⟩
      have HR := hid (HRES.out w2 hw2)
      clear hw2 HRES H34
      go_wp2_with fail
      go_ret
      exact ⟨rfl, HR.out⟩

end Go.Proofs.Qxb6615523a
