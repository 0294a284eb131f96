import Derived.Test.Qxb6614661aRXn
namespace Go.Proofs.Qxb6614661aR
open Go.RowKit

/-- every block from L on that was there is as it was. -/
structure Kp (L : Nat) (w w' : World) : Prop where
  size : w.heap.size ≤ w'.heap.size
  block : ∀ b, L ≤ b → b < w.heap.size → w'.heap[b]? = w.heap[b]?
theorem Kp.refl (L : Nat) (w : World) : Kp L w w := ⟨Nat.le_refl _, fun _ _ _ => rfl⟩
theorem Kp.trans {L : Nat} {a b c : World} (h : Kp L a b) (k : Kp L b c) : Kp L a c :=
  ⟨Nat.le_trans h.size k.size, fun x hx hl => by rw [k.block x hx (Nat.lt_of_lt_of_le hl h.size)]; exact h.block x hx hl⟩
theorem Kp.below {L B : Nat} {a b c : World} (h : Kp L a b) (k : Below B b c) (hB : b.heap.size ≤ B) : Kp L a c :=
  h.trans ⟨k.size, fun x _ hl => k.block x (Nat.lt_of_lt_of_le hl hB)⟩
theorem Kp.set {L : Nat} {a b : World} (h : Kp L a b) (p : Addr) (v : Value) (hp : p.block < L ∨ a.heap.size ≤ p.block) : Kp L a (b.setCell p v) :=
  ⟨by have := h.size; simpa using this, fun x hx hl => by rw [Below.heap_setCell _ _ _ _ (by rcases hp with hp | hp <;> omega)]; exact h.block x hx hl⟩
theorem Kp.wrote {L g o : Nat} {a b c : World} {vs : List Value} (h : Kp L a b) (k : Wrote b c g o vs) (hs : b.heap.size ≤ c.heap.size) (hg : a.heap.size ≤ g) : Kp L a c :=
  ⟨Nat.le_trans h.size hs, fun x hx hl => by rw [k.far x (by omega)]; exact h.block x hx hl⟩

/-- a list, and the lists within it, lie from L on. -/
def SHi (L : Nat) (s : Sl) : Prop := ∀ b, s.a.map Addr.block = some b → L ≤ b
def RHi (L : Nat) (s : Sl) (vs : Nat → Sl) : Prop := SHi L s ∧ ∀ i, i < s.n → SHi L (vs i)

theorem Words.kp {L : Nat} {w w' : World} {s : Sl} {A : WC} (h : Words w s A) (hi : SHi L s) (k : Kp L w w') : Words w' s A := h.keep fun b hb hbb => k.block b (hi b hbb) hb
theorem Roles.kp {L : Nat} {w w' : World} {s : Sl} {vs : Nat → Sl} {A : RC} (h : Roles w s vs A) (hi : RHi L s vs) (k : Kp L w w') : Roles w' s vs A := by
  rcases h with h | ⟨b, o, ha, hc⟩
  · exact Or.inl h
  · refine Or.inr ⟨b, o, ha, fun i hin => ?_⟩
    obtain ⟨h1, h2, h3, h4⟩ := hc i hin
    have hbb : w'.heap[b]? = w.heap[b]? := k.block b (hi.1 b (by rw [ha]; rfl)) (World.block_lt_of_cell? w _ h1)
    exact ⟨by rw [World.cell?_of_block (w := w) hbb]; exact h1, by rw [World.cell?_of_block (w := w) hbb]; exact h2, by rw [World.cell?_of_block (w := w) hbb]; exact h3, h4.kp (hi.2 i hin) k⟩
theorem Grants.kp {L : Nat} {w w' : World} {s : Sl} {vs : Nat → Sl} {A : GC} (h : Grants w s vs A) (hi : RHi L s vs) (k : Kp L w w') : Grants w' s vs A := by
  rcases h with h | ⟨b, o, ha, hc⟩
  · exact Or.inl h
  · refine Or.inr ⟨b, o, ha, fun i hin => ?_⟩
    obtain ⟨h1, h2, h3, h4, h5, h6, h7⟩ := hc i hin
    have hbb : w'.heap[b]? = w.heap[b]? := k.block b (hi.1 b (by rw [ha]; rfl)) (World.block_lt_of_cell? w _ h1)
    exact ⟨by rw [World.cell?_of_block (w := w) hbb]; exact h1, by rw [World.cell?_of_block (w := w) hbb]; exact h2, by rw [World.cell?_of_block (w := w) hbb]; exact h3, by rw [World.cell?_of_block (w := w) hbb]; exact h4,
      by rw [World.cell?_of_block (w := w) hbb]; exact h5, by rw [World.cell?_of_block (w := w) hbb]; exact h6, h7.kp (hi.2 i hin) k⟩

/-- block B holds the cells cs, none frozen. -/
def Blk (w : World) (B : Nat) (t : TypeId) (cs : Array Value) : Prop := w.heap[B]? = some (.cells cs t (0, 0))
theorem Blk.below {w w' : World} {B C : Nat} {t : TypeId} {cs : Array Value} (h : Blk w B t cs) (hb : Below C w w') (hB : B < C) : Blk w' B t cs := by unfold Blk; rw [hb.block B hB]; exact h
theorem Blk.lt {w : World} {B : Nat} {t : TypeId} {cs : Array Value} (h : Blk w B t cs) : B < w.heap.size := (Array.getElem?_eq_some_iff.1 h).1
theorem Blk.next {w w' : World} {B : Nat} {t : TypeId} {cs : Array Value} (h : Blk w B t cs) (hb : Below w.heap.size w w') : Blk w' B t cs := h.below hb h.lt
theorem Blk.far {w : World} {B : Nat} {t : TypeId} {cs : Array Value} (h : Blk w B t cs) (p : Addr) (v : Value) (hne : B ≠ p.block) : Blk (w.setCell p v) B t cs := by unfold Blk; rw [Below.heap_setCell _ _ _ _ hne]; exact h
theorem Blk.wrote {w w' : World} {B g o : Nat} {t : TypeId} {cs : Array Value} {vs : List Value} (h : Blk w B t cs) (k : Wrote w w' g o vs) (hne : B ≠ g) : Blk w' B t cs := by unfold Blk; rw [k.far B hne]; exact h
theorem Blk.cell {w : World} {B : Nat} {t : TypeId} {cs : Array Value} (h : Blk w B t cs) (j : Nat) (v : Value) (hv : cs[j]? = some v) : w.cell? ⟨B, j, none⟩ = some v := by rw [cell_of_row w B j cs t _ h]; exact hv
theorem Blk.frozen {w : World} {B : Nat} {t : TypeId} {cs : Array Value} (h : Blk w B t cs) (j : Nat) : w.frozen? ⟨B, j, none⟩ = false := by unfold World.frozen?; rw [h]; simp
theorem Blk.set {w : World} {B : Nat} {t : TypeId} {cs : Array Value} (h : Blk w B t cs) (j : Nat) (v : Value) : Blk (w.setCell ⟨B, j, none⟩ v) B t (cs.setIfInBounds j v) := by
  unfold Blk
  simp only [World.setCell, Array.getElem?_modify]
  rw [if_pos trivial, h]
  rfl
theorem blk_new (w : World) (t : TypeId) (cs : Array Value) : Blk (w.alloc (.cells cs t)) w.heap.size t cs := heap_alloc_new w _

end Go.Proofs.Qxb6614661aR
