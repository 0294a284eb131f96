import Derived.Test.Qxb6615523aWb
namespace Go.Proofs.Qxb6615523a
open Go.RowKit

set_option maxHeartbeats 400000 in
theorem w33z (w : World) : Calls Try.prog 33 #[.int .i64 0] w fun e w' => e = .returned (.pointer (some ⟨w.heap.size, 0, none⟩)) ∧ w' = w.alloc (.cells #[.bool false, .slice none 0 0] 51) := by
  go_enter Try.func33, Try.ntmps33
  go_wp2
  go_ret
  exact ⟨rfl, rfl⟩

set_option maxHeartbeats 400000 in
theorem w33p (x : Int) (w : World) (h0 : 0 < x) (h1 : x ≤ 9223372036854775807) : Calls Try.prog 33 #[.int .i64 x] w fun e w' => e = .returned (.pointer (some ⟨w.heap.size + 1, 0, none⟩)) ∧
    w' = (w.alloc (.cells #[.int .u64 x] 56)).alloc (.cells #[.bool false, .slice (some ⟨w.heap.size, 0, none⟩) 1 1] 51) := by
  have hx : (x == 0) = false := by simp; omega
  have hd : decide (x < 0) = false := by simp; omega
  go_enter Try.func33, Try.ntmps33
  go_wp2
  go_ret
  exact ⟨rfl, rfl⟩

theorem wrapneg (x : Int) (h0 : 0 < x) (h1 : x ≤ 9223372036854775807) : IntKind.u64.wrap (-IntKind.u64.wrap (-x)) = x := by
  simp only [IntKind.wrap_u64]
  omega

set_option maxHeartbeats 400000 in
theorem w33n (x : Int) (w : World) (h0 : 0 < x) (h1 : x ≤ 9223372036854775807) : Calls Try.prog 33 #[.int .i64 (-x)] w fun e w' => e = .returned (.pointer (some ⟨w.heap.size + 1, 0, none⟩)) ∧
    w' = (w.alloc (.cells #[.int .u64 x] 56)).alloc (.cells #[.bool true, .slice (some ⟨w.heap.size, 0, none⟩) 1 1] 51) := by
  have hx : (-x == 0) = false := by simp; omega
  go_enter Try.func33, Try.ntmps33
  go_wp2
  go_ret
  refine ⟨rfl, ?_⟩
  rw [wrapneg x h0 h1]

def GivesBig (sg : Bool) (m : Int) (w : World) (e : Ending) (w' : World) : Prop :=
  ∃ p, e = .returned (.pointer (some ⟨p, 0, none⟩)) ∧ Big w' w.heap.size p sg m ∧ Below w.heap.size w w'

theorem big_new (w : World) (sg : Bool) (m : Int) (hm : m ≠ 0) : Big ((w.alloc (.cells #[.int .u64 m] 56)).alloc (.cells #[.bool sg, .slice (some ⟨w.heap.size, 0, none⟩) 1 1] 51)) w.heap.size (w.heap.size + 1) sg m := by
  refine ⟨by omega, some ⟨w.heap.size, 0, none⟩, 1, 1, ?_, Or.inr ⟨hm, rfl, w.heap.size, 0, rfl, by omega, Nat.le_refl _, by simp; omega, ?_⟩⟩
  · have := heap_alloc_new (w.alloc (.cells #[.int .u64 m] 56)) (.cells #[.bool sg, .slice (some ⟨w.heap.size, 0, none⟩) 1 1] 51)
    simpa using this
  · rw [World.cell?_of_block (w := w.alloc (.cells #[.int .u64 m] 56)) (Below.heap_alloc _ _ _ (by simp))]
    exact World.cell?_alloc_mark w #[.int .u64 m] 56 (0, 0) 0

theorem w33 (sg : Bool) (m : Int) (w : World) (h0 : 0 ≤ m) (h1 : m ≤ 9223372036854775807) (hs : sg = true → m ≠ 0) : Calls Try.prog 33 #[.int .i64 (if sg then -m else m)] w (GivesBig sg m w) := by
  by_cases hm : m = 0
  · subst hm
    cases sg
    · refine (w33z w).mono ?_
      rintro e w' ⟨rfl, rfl⟩
      exact ⟨w.heap.size, rfl, ⟨Nat.le_refl _, none, 0, 0, heap_alloc_new w _, Or.inl ⟨rfl, rfl⟩⟩, (Below.refl _ _).alloc (Nat.le_refl _) _⟩
    · exact absurd rfl (hs rfl)
  · cases sg
    · refine (w33p m w (by omega) h1).mono ?_
      rintro e w' ⟨rfl, rfl⟩
      exact ⟨w.heap.size + 1, rfl, big_new w false m hm, ((Below.refl _ _).alloc (Nat.le_refl _) _).alloc (by simp) _⟩
    · refine (w33n m w (by omega) h1).mono ?_
      rintro e w' ⟨rfl, rfl⟩
      exact ⟨w.heap.size + 1, rfl, big_new w true m hm, ((Below.refl _ _).alloc (Nat.le_refl _) _).alloc (by simp) _⟩

/-- a decimal.Decimal with the coefficient m of sign sg at the exponent x is handed back. -/
def GivesDec (sg : Bool) (m x : Int) (w : World) (e : Ending) (w' : World) : Prop :=
  ∃ p, e = .returned (.agg #[.pointer (some ⟨p, 0, none⟩), .int .i32 x]) ∧ Big w' w.heap.size p sg m ∧ Below w.heap.size w w'

theorem Big.below {w w' : World} {C p B : Nat} {sg : Bool} {m : Int} (h : Big w C p sg m) (hb : Below B w w') (hB : w.heap.size ≤ B) : Big w' C p sg m := by
  obtain ⟨h0, a, n, c, hh, hr⟩ := h
  have lp := lt_of hh
  refine ⟨h0, a, n, c, by rw [hb.block p (by omega)]; exact hh, ?_⟩
  rcases hr with hr | ⟨h1, h2, g, o, h3, h4, h5, h6, h7⟩
  · exact Or.inl hr
  · exact Or.inr ⟨h1, h2, g, o, h3, h4, h5, Nat.lt_of_lt_of_le h6 hb.size, by rw [hb.cell (p := ⟨g, o, none⟩) (show g < B by omega)]; exact h7⟩

theorem Big.setCell {w : World} {C p : Nat} {sg : Bool} {m : Int} (h : Big w C p sg m) (d j : Nat) (v : Value) (hd : d < C) : Big (w.setCell ⟨d, j, none⟩ v) C p sg m := by
  obtain ⟨h0, a, n, c, hh, hr⟩ := h
  refine ⟨h0, a, n, c, by rw [Below.heap_setCell _ _ _ _ (show p ≠ d by omega)]; exact hh, ?_⟩
  rcases hr with hr | ⟨h1, h2, g, o, h3, h4, h5, h6, h7⟩
  · exact Or.inl hr
  · refine Or.inr ⟨h1, h2, g, o, h3, h4, h5, by simpa [World.setCell] using h6, ?_⟩
    rw [World.cell?_of_block (w := w) (Below.heap_setCell _ _ _ _ (show g ≠ d by omega))]
    exact h7

theorem Big.mono {w : World} {C D p : Nat} {sg : Bool} {m : Int} (h : Big w C p sg m) (hd : D ≤ C) : Big w D p sg m := by
  obtain ⟨h0, a, n, c, hh, hr⟩ := h
  refine ⟨by omega, a, n, c, hh, ?_⟩
  rcases hr with hr | ⟨h1, h2, g, o, h3, h4, h5, h6, h7⟩
  · exact Or.inl hr
  · exact Or.inr ⟨h1, h2, g, o, h3, h4, by omega, h6, h7⟩

theorem Big.alloc {w : World} {C p : Nat} {sg : Bool} {m : Int} (h : Big w C p sg m) (o : Obj) : Big (w.alloc o) C p sg m :=
  h.below ((Below.refl w.heap.size w).alloc (Nat.le_refl _) o) (Nat.le_refl _)

theorem newblk {w w1 : World} {c : Array Value} {e : TypeId} (hb : Below (w.alloc (.cells c e)).heap.size (w.alloc (.cells c e)) w1) : w1.heap[w.heap.size]? = some (.cells c e (0, 0)) := by
  rw [hb.block w.heap.size (by simp)]
  exact heap_alloc_new w _

set_option maxHeartbeats 400000 in
theorem w20 (v x : Int) (sg : Bool) (m : Int) (w : World) (H : ∀ w, Calls Try.prog 33 #[.int .i64 v] w (GivesBig sg m w)) : Calls Try.prog 20 #[.int .i64 v, .int .i32 x] w (GivesDec sg m x w) := by
  have H33 := hid H
  clear H
  go_enter Try.func20, Try.ntmps20
  go_wp2_with fail
  refine (H33.out _).mono ?_
  rintro e w1 ⟨p, rfl, h1, h3⟩
  have hn := newblk h3
  have hz : w.heap.size < w1.heap.size := lt_of hn
  have c0 : w1.cell? ⟨w.heap.size, 0, none⟩ = some (.pointer none) := by rw [cell_of hn]; rfl
  have c1 : w1.cell? ⟨w.heap.size, 1, none⟩ = some (.int .i32 0) := by rw [cell_of hn]; rfl
  have f0 := free_of hn 0
  have f1 := free_of hn 1
  have HB : Hid (Below w.heap.size w w1) := ((Below.refl _ _).alloc (Nat.le_refl _) _).trans (h3.mono (by simp))
  have H2 := hid (((h1.setCell w.heap.size 0 (.pointer (some ⟨p, 0, none⟩)) (by simp)).setCell w.heap.size 1 (.int .i32 x) (by simp)).mono (D := w.heap.size) (by simp))
  clear h1 h3 hn
  go_wp2_with fail
  exact bodyPost_ret (v := .agg #[.pointer (some ⟨p, 0, none⟩), .int .i32 x]) (by simp [results, Try.results20, go_sem, c0, c1]) rfl
    ⟨p, rfl, H2.out, (HB.out.setCell (p := ⟨w.heap.size, 0, none⟩) (Nat.le_refl _) _).setCell (p := ⟨w.heap.size, 1, none⟩) (Nat.le_refl _) _⟩

end Go.Proofs.Qxb6615523a
