import Derived.Test.Qxb6615523aWf
namespace Go.Proofs.Qxb6615523a
open Go.RowKit

theorem eql_nil35 (a : Addr) (w : World) : (binOp .eql 35 (.pointer (some a)) (.pointer none)).run Try.prog w = .ok (.bool false) w := by
  rw [run_eql_pointer_nil (P := Try.prog) w 35 (some a) (by kernel_rfl)]
  rfl

set_option maxHeartbeats 400000 in
theorem w24 (d p : Nat) (w : World) (c0 : w.cell? ⟨d, 0, none⟩ = some (.pointer (some ⟨p, 0, none⟩))) : Calls Try.prog 24 #[.pointer (some ⟨d, 0, none⟩)] w fun e w' => e = .returned (.tuple #[]) ∧ w = w' := by
  have hn := fun w => eql_nil35 ⟨p, 0, none⟩ w
  go_enter Try.func24, Try.ntmps24
  go_wp2
  go_end0
  exact ⟨rfl, rfl⟩

set_option maxHeartbeats 400000 in
theorem w10 (p B : Nat) (x : Int) (sg : Bool) (m : Int) (w : World) (hb : Big w B p sg m) : Calls Try.prog 10 #[.agg #[.pointer (some ⟨p, 0, none⟩), .int .i32 x]] w fun e w' =>
    e = .returned (.pointer (some ⟨w.heap.size + 1, 0, none⟩)) ∧ Big w' (w.heap.size + 1) (w.heap.size + 1) sg m ∧ Below w.heap.size w w' := by
  have lp : p < w.heap.size := by obtain ⟨_, _, _, _, hh, _⟩ := hb; exact lt_of hh
  have H24 := w24 w.heap.size p (w.alloc (.cells #[.pointer (some ⟨p, 0, none⟩), .int .i32 x] 37)) (by simp)
  have H25 := w25 (w.heap.size + 1) p sg m ((w.alloc (.cells #[.pointer (some ⟨p, 0, none⟩), .int .i32 x] 37)).alloc (.cells #[.bool false, .slice none 0 0] 51)) (by omega)
    (by simpa using heap_alloc_new (w.alloc (.cells #[.pointer (some ⟨p, 0, none⟩), .int .i32 x] 37)) (.cells #[.bool false, .slice none 0 0] 51)) B ((hb.alloc _).alloc _)
  clear hb
  go_enter Try.func10, Try.ntmps10
  go_wp2_with fail
  refine H24.mono ?_
  rintro e w1 ⟨rfl, rfl⟩
  go_wp2_with fail
  refine H25.mono ?_
  rintro e w1 ⟨rfl, h1, h3⟩
  have H1 := hid h1
  have HB : Hid (Below w.heap.size w w1) := (((Below.refl _ _).alloc (Nat.le_refl _) _).alloc (by simp) _).trans (h3.mono (by omega))
  clear h1 h3 H25 H24
  go_wp2_with fail
  go_ret
  exact ⟨rfl, H1.out, HB.out⟩

/-- the sign that Sign gives. -/
def sgn (sg : Bool) (m : Int) : Int := if m = 0 then 0 else if sg then -1 else 1

set_option maxHeartbeats 400000 in
theorem w11 (q C : Nat) (sg : Bool) (m : Int) (w : World) (hb : Big w C q sg m) : Calls Try.prog 11 #[.pointer (some ⟨q, 0, none⟩)] w fun e w' => e = .returned (.int .i64 (sgn sg m)) ∧ w = w' := by
  obtain ⟨a, n, c, q0, q1, hf, hl, ⟨rfl, rfl⟩ | ⟨hm, rfl, _⟩⟩ := hb.cells
  · clear hb hf
    go_enter Try.func11, Try.ntmps11
    go_wp2
    go_ret
    exact ⟨rfl, rfl⟩
  · clear hb hf
    cases sg
    · have e : sgn false m = 1 := by simp [sgn, hm]
      rw [e]
      go_enter Try.func11, Try.ntmps11
      go_wp2
      go_ret
      exact ⟨rfl, rfl⟩
    · have e : sgn true m = -1 := by simp [sgn, hm]
      rw [e]
      go_enter Try.func11, Try.ntmps11
      go_wp2
      go_ret
      exact ⟨rfl, rfl⟩

set_option maxHeartbeats 400000 in
theorem w12 (q C : Nat) (sg : Bool) (m : Int) (w : World) (hb : Big w C q sg m) : Calls Try.prog 12 #[.pointer (some ⟨q, 0, none⟩), .pointer (some ⟨q, 0, none⟩)] w fun e w' => e = .returned (.pointer (some ⟨q, 0, none⟩)) ∧
    w' = w.setCell ⟨q, 0, none⟩ (.bool false) := by
  obtain ⟨a, n, c, q0, q1, hf, hl, _⟩ := hb.cells
  have H25 := w25s q w
  clear hb
  go_enter Try.func12, Try.ntmps12
  go_wp2_with (go_at_call 25; refine H25.mono ?_; rintro e w2 ⟨rfl, rfl⟩)
  go_ret
  exact ⟨rfl, rfl⟩

set_option maxHeartbeats 400000 in
theorem w13 (q C : Nat) (sg : Bool) (m : Int) (w : World) (hb : Big w C q sg m) : Calls Try.prog 13 #[.pointer (some ⟨q, 0, none⟩)] w fun e w' => e = .returned (.int .u64 m) ∧ w = w' := by
  obtain ⟨a, n, c, q0, q1, hf, hl, ⟨rfl, rfl⟩ | ⟨hm, rfl, g, o, rfl, hg⟩⟩ := hb.cells
  · clear hb hf
    go_enter Try.func13, Try.ntmps13
    go_wp2
    go_ret
    exact ⟨rfl, rfl⟩
  · clear hb hf
    go_enter Try.func13, Try.ntmps13
    go_wp2
    go_ret
    exact ⟨rfl, rfl⟩

set_option maxHeartbeats 400000 in
theorem w14 (q C : Nat) (m : Int) (w : World) (hb : Big w C q false m) : Calls Try.prog 14 #[.pointer (some ⟨q, 0, none⟩)] w fun e w' => e = .returned (.bool true) ∧ w = w' := by
  obtain ⟨a, n, c, q0, q1, hf, hl, ⟨rfl, rfl⟩ | ⟨hm, rfl, _⟩⟩ := hb.cells
  · clear hb hf
    go_enter Try.func14, Try.ntmps14
    go_wp2
    go_ret
    exact ⟨rfl, rfl⟩
  · clear hb hf
    go_enter Try.func14, Try.ntmps14
    go_wp2
    go_ret
    exact ⟨rfl, rfl⟩

set_option maxHeartbeats 400000 in
theorem w15 (v : Value) (x : Int) (p : Option Addr) (w : World) (hv : v = .pointer p) : Calls Try.prog 15 #[.agg #[v, .int .i32 x]] w fun e w' => e = .returned (.int .i32 x) ∧ w' = w.alloc (.cells #[v, .int .i32 x] 37) := by
  subst hv
  go_enter Try.func15, Try.ntmps15
  go_wp2
  go_ret
  exact ⟨rfl, rfl⟩

end Go.Proofs.Qxb6615523a
