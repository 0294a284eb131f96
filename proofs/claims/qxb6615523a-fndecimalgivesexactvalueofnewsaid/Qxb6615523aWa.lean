import Derived.Test.Qxb6615523aRows
import Derived.WalkKit
import Derived.WalkSpells
import Derived.WalkLawsBesides
import Derived.Deep.RegionWith
namespace Go.Proofs.Qxb6615523a
open Go.RowKit

theorem hid {p : Prop} (h : p) : Hid p := h

set_option maxHeartbeats 400000 in
theorem w37a (w : World) : Calls Try.prog 37 #[.slice none 0 0, .int .i64 0] w fun e w' => e = .returned (.slice none 0 0) ∧ w' = w := by
  go_enter Try.func37, Try.ntmps37
  go_wp2
  go_ret
  exact ⟨rfl, rfl⟩

theorem make49 (w : World) : (Instr.makeSlice 49 (.int .i64 1) (.int .i64 1)).run Try.prog w = .ok (.slice (some ⟨w.heap.size, 0, none⟩) 1 1) (w.alloc (.cells #[.int .u64 0] 56)) := by kernel_rfl

set_option maxHeartbeats 400000 in
theorem w37b (w : World) : Calls Try.prog 37 #[.slice none 0 0, .int .i64 1] w fun e w' => e = .returned (.slice (some ⟨w.heap.size, 0, none⟩) 1 1) ∧ w' = w.alloc (.cells #[.int .u64 0] 56) := by
  have hmk := make49
  go_enter Try.func37, Try.ntmps37
  go_wp2
  go_ret
  exact ⟨rfl, rfl⟩

set_option maxHeartbeats 400000 in
theorem w35a (a : Option Addr) (c : Nat) (w : World) : Calls Try.prog 35 #[.slice none 0 0, .slice a 0 c] w fun e w' => e = .returned (.slice none 0 0) ∧ w' = w := by
  have hcp := fun w => run_copy_none (P := Try.prog) w 49 49 3 56 none a 0 0 0 c Try.underlying49 (by kernel_rfl) rfl
  go_enter Try.func35, Try.ntmps35
  go_wp2
  go_ret
  exact ⟨rfl, rfl⟩

theorem modify_last (a : Array Obj) (x : Obj) (f : Obj → Obj) : (a.push x).modify a.size f = a.push (f x) := by
  apply Array.ext
  · simp
  · intro i h1 h2
    simp only [Array.getElem_modify, Array.getElem_push]
    by_cases h : a.size = i
    · subst h
      simp
    · have hi : i < a.size := by simp at h1; omega
      simp [h, hi]

theorem setRow_last (w : World) (c c' : Array Value) (e : TypeId) : (w.alloc (.cells c e)).setRow w.heap.size c' = w.alloc (.cells c' e) := by
  unfold World.setRow
  show ({ w with heap := (w.heap.push (.cells c e)).modify w.heap.size _ } : World) = _
  rw [modify_last]
  rfl

set_option maxHeartbeats 400000 in
theorem w35b (g o c : Nat) (m : Int) (w : World) (hg : g < w.heap.size) (hc : w.cell? ⟨g, o, none⟩ = some (.int .u64 m)) :
    Calls Try.prog 35 #[.slice none 0 0, .slice (some ⟨g, o, none⟩) 1 c] w fun e w' => e = .returned (.slice (some ⟨w.heap.size, 0, none⟩) 1 1) ∧ w' = w.alloc (.cells #[.int .u64 m] 56) := by
  have hmk := make49
  have hne : ¬ g = w.heap.size := by omega
  have hcp := run_copy_row (P := Try.prog) (w.alloc (.cells #[.int .u64 0] 56)) 49 49 3 56 w.heap.size 0 1 1 ⟨g, o, none⟩ 1 c #[.int .u64 0] 56 [.int .u64 m] Try.underlying49 (by kernel_rfl) (heap_alloc_new w _) rfl
    (by
      intro j v hj
      match j, hj with
      | 0, hj =>
        simp at hj
        subst hj
        have := World.cell?_of_block (w := w) (w' := w.alloc (.cells #[.int .u64 0] 56)) (a := ⟨g, o, none⟩) (Below.heap_alloc w _ g hg)
        simpa [Addr.add, this] using hc) (by simp) (by intro v hv; simp at hv; subst hv; rfl)
  go_enter Try.func35, Try.ntmps35
  go_wp2
  go_ret
  exact ⟨rfl, setRow_last _ _ _ _⟩

end Go.Proofs.Qxb6615523a
