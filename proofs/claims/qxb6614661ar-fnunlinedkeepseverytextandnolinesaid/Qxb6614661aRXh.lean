import Derived.Test.Qxb6614661aRXf
namespace Go.Proofs.Qxb6614661aR
open Go.RowKit

/-- a word is answered; what was there stays. -/
def PostW (t : ByteArray) (l : Int) (w : World) (e : Ending) (w' : World) : Prop := e = .returned (.agg #[.string t, .int .i64 l]) ∧ Below w.heap.size w w'

set_option maxRecDepth 100000 in
theorem w39 (t : ByteArray) (l : Int) (w : World) : Calls Try.prog 39 #[.agg #[.string t, .int .i64 l]] w (PostW t l w) := by
  have HB : Hid (∀ o o2, Below w.heap.size w ((w.alloc o).alloc o2)) := fun o o2 => ((Below.refl _ _).alloc (Nat.le_refl _) o).alloc (by simp) o2
  go_enter Try.func39, Try.ntmps39
  go_wp2
  refine bodyPost_ret (v := .agg #[.string t, .int .i64 l]) (by simp [results, Try.results39, go_sem]) rfl ?_
  exact ⟨rfl, HB.out _ _⟩

set_option maxRecDepth 100000 in
theorem w55 (t : ByteArray) (l : Int) (w : World) : Calls Try.prog 55 #[.agg #[.string t, .int .i64 l]] w (PostW t 0 w) := by
  have HB : Hid (∀ o o2, Below w.heap.size w ((w.alloc o).alloc o2)) := fun o o2 => ((Below.refl _ _).alloc (Nat.le_refl _) o).alloc (by simp) o2
  go_enter Try.func55, Try.ntmps55
  go_wp2
  refine bodyPost_ret (v := .agg #[.string t, .int .i64 0]) (by simp [results, Try.results55, go_sem]) rfl ?_
  exact ⟨rfl, HB.out _ _⟩
end Go.Proofs.Qxb6614661aR
