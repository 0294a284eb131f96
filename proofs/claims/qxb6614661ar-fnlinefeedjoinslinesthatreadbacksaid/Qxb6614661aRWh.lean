import Derived.Test.Qxb6614661aRWe
namespace Go.Proofs.Qxb6614661aR
open Go.RowKit

theorem hid {p : Prop} (h : p) : Hid p := h

/-- the encoded newline -/
def nl (wide big : Bool) : List Int := if wide then ub big 10 else [10]

/-- as Gives, and the new row may be written. -/
def GivesO (l : List Int) (w : World) (e : Ending) (w' : World) : Prop :=
  ∃ g c, e = .returned (.slice (some ⟨g, 0, none⟩) l.length c) ∧ Own w' g 5 l.length ∧ Row .u8 w' g 0 l ∧ w.heap.size ≤ g ∧ Below w.heap.size w w'

theorem own_lit1 (w : World) (v : Value) (e : TypeId) : Own (w.alloc (.cells #[v] e)) w.heap.size e 1 := ⟨#[v], heap_alloc_new w _, rfl⟩

theorem row_lit1 (w : World) (x : Int) (e : TypeId) : Row .u8 (w.alloc (.cells #[.int .u8 x] e)) w.heap.size 0 [x] := by
  intro j hj
  simp at hj
  subst hj
  simp

theorem row_lit2 (w : World) (x y : Int) (e : TypeId) : Row .u8 (w.alloc (.cells #[.int .u8 x, .int .u8 y] e)) w.heap.size 0 [x, y] := by
  intro j hj
  simp at hj
  match j, hj with
  | 0, _ => simp
  | 1, _ => simp

set_option maxHeartbeats 400000 in
theorem w23 (wide big : Bool) (w : World) : Calls Try.prog 23 #[.bool wide, .bool big] w (GivesO (nl wide big) w) := by
  cases wide
  · go_enter Try.func23, Try.ntmps23
    go_wp2
    go_ret
    exact ⟨w.heap.size, _, rfl, own_new _ _ _, row_lit1 _ _ _, Nat.le_refl _, (Below.refl _ _).alloc (Nat.le_refl _) _⟩
  · cases big
    · go_enter Try.func23, Try.ntmps23
      go_wp2
      go_ret
      exact ⟨w.heap.size, _, rfl, own_new _ _ _, row_lit2 _ _ _ _, Nat.le_refl _, (Below.refl _ _).alloc (Nat.le_refl _) _⟩
    · go_enter Try.func23, Try.ntmps23
      go_wp2
      go_ret
      exact ⟨w.heap.size, _, rfl, own_new _ _ _, row_lit2 _ _ _ _, Nat.le_refl _, (Below.refl _ _).alloc (Nat.le_refl _) _⟩

set_option maxHeartbeats 400000 in
theorem w60n (bom : Int) (w : World) : Calls Try.prog 60 #[.agg #[.int .i64 bom, .nilIface]] w (GivesO [10] w) := by
  go_enter Try.func60, Try.ntmps60
  go_wp2
  go_ret
  exact ⟨w.heap.size + 1, 1, rfl, by simpa using own_lit1 (w.alloc (.cells #[.int .i64 bom, .nilIface] 109)) (.int .u8 10) 5, by simpa using row_lit1 (w.alloc (.cells #[.int .i64 bom, .nilIface] 109)) _ _, by omega, ((Below.refl _ _).alloc (Nat.le_refl _) _).alloc (by simp) _⟩

set_option maxHeartbeats 400000 in
theorem w60b (bom : Int) (w : World) : Calls Try.prog 60 #[.agg #[.int .i64 bom, .iface 112 (.agg #[])]] w (GivesO [0, 10] w) := by
  have hmk := fun w => make43 2 (by omega) w
  simp only [show ((2 : Nat) : Int) = 2 from rfl] at hmk
  have hmeth := methPB
  have own2 : Own ((w.alloc (.cells #[.int .i64 bom, .iface 112 (.agg #[])] 109)).alloc (.cells (madeCells #[Value.int .u8 0] 2) 5)) (w.heap.size + 1) 5 2 := by
    simpa using own_made (w.alloc (.cells #[.int .i64 bom, .iface 112 (.agg #[])] 109)) #[Value.int .u8 0] 2 5
  have b2 : Below w.heap.size w ((w.alloc (.cells #[.int .i64 bom, .iface 112 (.agg #[])] 109)).alloc (.cells (madeCells #[Value.int .u8 0] 2) 5)) := ((Below.refl _ _).alloc (Nat.le_refl _) _).alloc (by simp) _
  obtain ⟨v0, hv0⟩ := own2.cell 0 (by omega)
  obtain ⟨v1, hv1⟩ := own2.cell 1 (by omega)
  have HP := w85 (w.heap.size + 1) 0 2 2 10 v0 v1 _ (by omega) (by omega) (by omega) own2.lt hv0 hv1 (own2.frozen _) (own2.frozen _)
  have O2 := hid own2
  have B2 := hid b2
  clear own2 b2 hv0 hv1
  go_enter Try.func60, Try.ntmps60
  go_wp2_with fail
  refine HP.mono ?_
  rintro e w2 ⟨rfl, hw2⟩
  have HRES : Hid (GivesO [0, 10] w (.returned (.slice (some ⟨w.heap.size + 1, 0, none⟩) 2 2)) w2) := by
    rw [hw2]
    refine ⟨w.heap.size + 1, 2, rfl, ((O2.out.setCell _ _).setCell _ _).alloc _, ?_, by omega, ((B2.out.setCell (by simp) _).setCell (by simp) _).alloc (by simpa using B2.out.size) _⟩
    have := snoc2 (Row.nil .u8 _ _ _) O2.out rfl (by simp) (10 / 256) (10 % 256)
    exact this.alloc (by simp) _
  clear hw2 HP O2 B2
  go_wp2_with fail
  go_ret
  exact HRES.out

set_option maxHeartbeats 400000 in
theorem w60l (bom : Int) (w : World) : Calls Try.prog 60 #[.agg #[.int .i64 bom, .iface 113 (.agg #[])]] w (GivesO [10, 0] w) := by
  have hmk := fun w => make43 2 (by omega) w
  simp only [show ((2 : Nat) : Int) = 2 from rfl] at hmk
  have hmeth := methPL
  have own2 : Own ((w.alloc (.cells #[.int .i64 bom, .iface 113 (.agg #[])] 109)).alloc (.cells (madeCells #[Value.int .u8 0] 2) 5)) (w.heap.size + 1) 5 2 := by
    simpa using own_made (w.alloc (.cells #[.int .i64 bom, .iface 113 (.agg #[])] 109)) #[Value.int .u8 0] 2 5
  have b2 : Below w.heap.size w ((w.alloc (.cells #[.int .i64 bom, .iface 113 (.agg #[])] 109)).alloc (.cells (madeCells #[Value.int .u8 0] 2) 5)) := ((Below.refl _ _).alloc (Nat.le_refl _) _).alloc (by simp) _
  obtain ⟨v0, hv0⟩ := own2.cell 0 (by omega)
  obtain ⟨v1, hv1⟩ := own2.cell 1 (by omega)
  have HP := w93 (w.heap.size + 1) 0 2 2 10 v0 v1 _ (by omega) (by omega) (by omega) own2.lt hv0 hv1 (own2.frozen _) (own2.frozen _)
  have O2 := hid own2
  have B2 := hid b2
  clear own2 b2 hv0 hv1
  go_enter Try.func60, Try.ntmps60
  go_wp2_with fail
  refine HP.mono ?_
  rintro e w2 ⟨rfl, hw2⟩
  have HRES : Hid (GivesO [10, 0] w (.returned (.slice (some ⟨w.heap.size + 1, 0, none⟩) 2 2)) w2) := by
    rw [hw2]
    refine ⟨w.heap.size + 1, 2, rfl, ((O2.out.setCell _ _).setCell _ _).alloc _, ?_, by omega, ((B2.out.setCell (by simp) _).setCell (by simp) _).alloc (by simpa using B2.out.size) _⟩
    have := snoc2 (Row.nil .u8 _ _ _) O2.out rfl (by simp) (10 % 256) (10 / 256)
    exact this.alloc (by simp) _
  clear hw2 HP O2 B2
  go_wp2_with fail
  go_ret
  exact HRES.out

set_option maxHeartbeats 400000 in
theorem w50 (bom : Int) (w : World) : Calls Try.prog 50 #[.int .i64 bom] w (GivesO [10] w) := by
  have H := w60n bom w
  go_enter Try.func50, Try.ntmps50
  go_wp2_with (go_at_call 60; refine H.mono ?_; rintro e w1 ⟨g, c, rfl, h1, h2, h3, h4⟩)
  go_ret
  exact ⟨_, _, rfl, h1, h2, h3, h4⟩

set_option maxHeartbeats 400000 in
theorem w51 (bom : Int) (w : World) : Calls Try.prog 51 #[.int .i64 bom] w (GivesO [0, 10] w) := by
  have H := w60b bom w
  go_enter Try.func51, Try.ntmps51
  go_wp2_with (go_at_call 60; refine H.mono ?_; rintro e w1 ⟨g, c, rfl, h1, h2, h3, h4⟩)
  go_ret
  exact ⟨_, _, rfl, h1, h2, h3, h4⟩

set_option maxHeartbeats 400000 in
theorem w52 (bom : Int) (w : World) : Calls Try.prog 52 #[.int .i64 bom] w (GivesO [10, 0] w) := by
  have H := w60l bom w
  go_enter Try.func52, Try.ntmps52
  go_wp2_with (go_at_call 60; refine H.mono ?_; rintro e w1 ⟨g, c, rfl, h1, h2, h3, h4⟩)
  go_ret
  exact ⟨_, _, rfl, h1, h2, h3, h4⟩

set_option maxHeartbeats 400000 in
theorem w24 (wide big : Bool) (bom : Int) (w : World) : Calls Try.prog 24 #[.bool wide, .bool big, .int .i64 bom] w (GivesO (nl wide big) w) := by
  cases wide
  · have H := w50 bom w
    go_enter Try.func24, Try.ntmps24
    go_wp2_with (go_at_call 50; refine H.mono ?_; rintro e w1 ⟨g, c, rfl, h1, h2, h3, h4⟩)
    go_ret
    exact ⟨_, _, rfl, h1, h2, h3, h4⟩
  · cases big
    · have H := w52 bom w
      go_enter Try.func24, Try.ntmps24
      go_wp2_with (go_at_call 52; refine H.mono ?_; rintro e w1 ⟨g, c, rfl, h1, h2, h3, h4⟩)
      go_ret
      exact ⟨_, _, rfl, h1, h2, h3, h4⟩
    · have H := w51 bom w
      go_enter Try.func24, Try.ntmps24
      go_wp2_with (go_at_call 51; refine H.mono ?_; rintro e w1 ⟨g, c, rfl, h1, h2, h3, h4⟩)
      go_ret
      exact ⟨_, _, rfl, h1, h2, h3, h4⟩

end Go.Proofs.Qxb6614661aR
