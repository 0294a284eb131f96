import Derived.WalkKit
import Derived.WalkSpells
import Derived.WalkLawsBesides
namespace Go.Proofs.Qxb6614661aR
open Go.RowKit

/-- the integers zs lie in block b from offset o on. -/
def Row (k : IntKind) (w : World) (b o : Nat) (zs : List Int) : Prop := ∀ j, j < zs.length → w.cell? ⟨b, o + j, none⟩ = some (.int k (zs.getD j 0))

/-- block g is a row of N cells of element type e, none of them frozen. -/
def Own (w : World) (g : Nat) (e : TypeId) (N : Nat) : Prop := ∃ cur : Array Value, w.heap[g]? = some (.cells cur e (0, 0)) ∧ cur.size = N

theorem Own.cell {w : World} {g : Nat} {e : TypeId} {N : Nat} (h : Own w g e N) (j : Nat) (hj : j < N) : ∃ v, w.cell? ⟨g, j, none⟩ = some v := by
  obtain ⟨cur, h1, h2⟩ := h
  refine ⟨cur[j]'(by omega), ?_⟩
  unfold World.cell?
  rw [h1]
  simp [show j < cur.size by omega]

theorem Own.frozen {w : World} {g : Nat} {e : TypeId} {N : Nat} (h : Own w g e N) (j : Nat) : w.frozen? ⟨g, j, none⟩ = false := by
  obtain ⟨cur, h1, h2⟩ := h
  unfold World.frozen?
  rw [h1]
  simp

theorem Own.lt {w : World} {g : Nat} {e : TypeId} {N : Nat} (h : Own w g e N) : g < w.heap.size := by
  obtain ⟨cur, h1, h2⟩ := h
  exact (Array.getElem?_eq_some_iff.1 h1).1

theorem Own.setCell {w : World} {g : Nat} {e : TypeId} {N : Nat} (h : Own w g e N) (a : Addr) (v : Value) : Own (w.setCell a v) g e N := by
  obtain ⟨cur, h1, h2⟩ := h
  by_cases hg : g = a.block
  · subst hg
    refine ⟨if a.spot.isSome then cur else cur.setIfInBounds a.off v, ?_, ?_⟩
    · simp only [World.setCell, Array.getElem?_modify]
      rw [if_pos trivial, h1]
      rfl
    · split
      · exact h2
      · simpa using h2
  · exact ⟨cur, by rw [Below.heap_setCell _ _ _ _ hg]; exact h1, h2⟩

theorem Own.alloc {w : World} {g : Nat} {e : TypeId} {N : Nat} (h : Own w g e N) (o : Obj) : Own (w.alloc o) g e N := by
  have hl := h.lt
  obtain ⟨cur, h1, h2⟩ := h
  exact ⟨cur, by rw [Below.heap_alloc _ _ _ hl]; exact h1, h2⟩

theorem Own.drew {w : World} {g : Nat} {e : TypeId} {N : Nat} (h : Own w g e N) : Own w.drew g e N := h
theorem Own.drewN {w : World} {g : Nat} {e : TypeId} {N : Nat} (h : Own w g e N) (q : Nat) : Own (w.drewN q) g e N := h

theorem Own.below {w w' : World} {g B : Nat} {e : TypeId} {N : Nat} (h : Own w g e N) (hb : Below B w w') (hg : g < B) : Own w' g e N := by
  obtain ⟨cur, h1, h2⟩ := h
  exact ⟨cur, by rw [hb.block g hg]; exact h1, h2⟩

theorem own_new (w : World) (c : Array Value) (e : TypeId) : Own (w.alloc (.cells c e)) w.heap.size e c.size :=
  ⟨c, heap_alloc_new w _, rfl⟩

theorem own_made (w : World) (z : Array Value) (n : Nat) (e : TypeId) : Own (w.alloc (.cells (madeCells z n) e)) w.heap.size e n :=
  ⟨madeCells z n, heap_alloc_new w _, size_madeCells z n⟩

theorem Row.nil (k : IntKind) (w : World) (b o : Nat) : Row k w b o [] := fun j hj => by simp at hj

theorem cell_setCell_ne (w : World) (a x : Addr) (v : Value) (h : x.block ≠ a.block ∨ x.off ≠ a.off) : (w.setCell a v).cell? x = w.cell? x :=
  World.cell?_setCell_other _ _ _ _ (fun e => by subst e; rcases h with h | h <;> exact h rfl)

theorem Row.setCell {k : IntKind} {w : World} {b o : Nat} {zs : List Int} (h : Row k w b o zs) (g j : Nat) (v : Value) (hne : g ≠ b ∨ j < o ∨ o + zs.length ≤ j) : Row k (w.setCell ⟨g, j, none⟩ v) b o zs := by
  intro i hi
  rw [cell_setCell_ne _ _ _ _ (by simp; omega)]
  exact h i hi

theorem Row.alloc {k : IntKind} {w : World} {b o : Nat} {zs : List Int} (h : Row k w b o zs) (hb : b < w.heap.size) (x : Obj) : Row k (w.alloc x) b o zs := by
  intro i hi
  have := World.cell?_of_block (w := w) (w' := w.alloc x) (a := ⟨b, o + i, none⟩) (Below.heap_alloc w x b hb)
  rw [this]
  exact h i hi

theorem Row.below {k : IntKind} {w w' : World} {b o B : Nat} {zs : List Int} (h : Row k w b o zs) (hb : Below B w w') (hB : b < B) : Row k w' b o zs := by
  intro i hi
  rw [hb.cell (p := ⟨b, o + i, none⟩) hB]
  exact h i hi

theorem Row.drew {k : IntKind} {w : World} {b o : Nat} {zs : List Int} (h : Row k w b o zs) : Row k w.drew b o zs := h
theorem Row.drewN {k : IntKind} {w : World} {b o : Nat} {zs : List Int} (h : Row k w b o zs) (q : Nat) : Row k (w.drewN q) b o zs := h

theorem Row.append {k : IntKind} {w : World} {b o : Nat} {xs ys : List Int} (h1 : Row k w b o xs) (h2 : Row k w b (o + xs.length) ys) : Row k w b o (xs ++ ys) := by
  intro i hi
  by_cases hlt : i < xs.length
  · rw [h1 i hlt]
    simp [List.getElem?_append_left hlt]
  · have := h2 (i - xs.length) (by simp at hi; omega)
    rw [show o + xs.length + (i - xs.length) = o + i by omega] at this
    rw [this]
    simp [List.getElem?_append_right (show xs.length ≤ i by omega)]

theorem Row.one {k : IntKind} {w : World} {b o : Nat} {x : Int} (h : w.cell? ⟨b, o, none⟩ = some (.int k x)) : Row k w b o [x] := by
  intro j hj
  simp at hj
  subst hj
  simpa using h

/-- one more cell is written behind a row. -/
theorem Row.snoc {k : IntKind} {w : World} {g o : Nat} {e : TypeId} {N : Nat} {zs : List Int} (h : Row k w g o zs) (ho : Own w g e N) (hl : o + zs.length < N) (x : Int) :
    Row k (w.setCell ⟨g, o + zs.length, none⟩ (.int k x)) g o (zs ++ [x]) := by
  refine Row.append (h.setCell _ _ _ (by omega)) (Row.one ?_)
  obtain ⟨v, hv⟩ := ho.cell _ hl
  exact World.cell?_setCell_same _ _ _ hv

theorem Row.take {k : IntKind} {w : World} {b o : Nat} {xs ys : List Int} (h : Row k w b o (xs ++ ys)) : Row k w b o xs := by
  intro i hi
  have := h i (by simp; omega)
  rw [this]
  simp [List.getElem?_append_left hi]

theorem Row.drop {k : IntKind} {w : World} {b o : Nat} {xs ys : List Int} (h : Row k w b o (xs ++ ys)) : Row k w b (o + xs.length) ys := by
  intro i hi
  have := h (xs.length + i) (by simp; omega)
  rw [show o + (xs.length + i) = o + xs.length + i by omega] at this
  rw [this]
  simp [List.getElem?_append_right (show xs.length ≤ xs.length + i by omega)]

end Go.Proofs.Qxb6614661aR
