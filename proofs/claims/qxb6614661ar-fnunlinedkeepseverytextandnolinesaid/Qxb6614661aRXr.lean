import Derived.Test.Qxb6614661aRXpb
import Derived.Test.Qxb6614661aRXl
namespace Go.Proofs.Qxb6614661aR
open Go.RowKit

/-- every block from L on but O that was there is as it was. -/
structure Kq (L O : Nat) (w w' : World) : Prop where
  size : w.heap.size ≤ w'.heap.size
  block : ∀ b, L ≤ b → b ≠ O → b < w.heap.size → w'.heap[b]? = w.heap[b]?
theorem Kq.refl (L O : Nat) (w : World) : Kq L O w w := ⟨Nat.le_refl _, fun _ _ _ _ => rfl⟩
theorem Kq.trans {L O : Nat} {a b c : World} (h : Kq L O a b) (k : Kq L O b c) : Kq L O a c :=
  ⟨Nat.le_trans h.size k.size, fun x hx ho hl => by rw [k.block x hx ho (Nat.lt_of_lt_of_le hl h.size)]; exact h.block x hx ho hl⟩
theorem Kq.below {L O B : Nat} {a b c : World} (h : Kq L O a b) (k : Below B b c) (hB : b.heap.size ≤ B) : Kq L O a c :=
  h.trans ⟨k.size, fun x _ _ hl => k.block x (Nat.lt_of_lt_of_le hl hB)⟩
theorem Kq.set {L O : Nat} {a b : World} (h : Kq L O a b) (j : Nat) (v : Value) : Kq L O a (b.setCell ⟨O, j, none⟩ v) :=
  ⟨by have := h.size; simpa using this, fun x hx ho hl => by rw [Below.heap_setCell _ _ _ _ ho]; exact h.block x hx ho hl⟩
theorem Kq.grown {L O : Nat} {a b c : World} {row : Option Nat} (h : Kq L O a b) (hg : b.grownBy c row) (hr : ∀ k, row = some k → a.heap.size ≤ k) : Kq L O a c :=
  ⟨Nat.le_trans h.size hg.size, fun x hx ho hl => by
    rw [hg.block x (Nat.lt_of_lt_of_le hl h.size) (fun e => by have := hr x e.symm; omega)]
    exact h.block x hx ho hl⟩
theorem Kq.kp {L O : Nat} {a b c : World} (h : Kq L O a b) (k : Kp L b c) : Kq L O a c := h.trans ⟨k.size, fun x hx _ hl => k.block x hx hl⟩

/-- a list, and the lists within it, lie from L on and not in O. -/
def SQ (L O : Nat) (w : World) (s : Sl) : Prop := ∀ b, s.a.map Addr.block = some b → b < w.heap.size → L ≤ b ∧ b ≠ O
def RQ (L O : Nat) (w : World) (s : Sl) (vs : Nat → Sl) : Prop := SQ L O w s ∧ ∀ i, i < s.n → SQ L O w (vs i)

theorem Words.kq {L O : Nat} {w w' : World} {s : Sl} {A : WC} (h : Words w s A) (hi : SQ L O w s) (k : Kq L O w w') : Words w' s A := h.keep fun b hb hbb => k.block b (hi b hbb hb).1 (hi b hbb hb).2 hb
theorem Roles.kq {L O : Nat} {w w' : World} {s : Sl} {vs : Nat → Sl} {A : RC} (h : Roles w s vs A) (hi : RQ L O w s vs) (k : Kq L O w w') : Roles w' s vs A := by
  rcases h with h | ⟨b, o, ha, hc⟩
  · exact Or.inl h
  · refine Or.inr ⟨b, o, ha, fun i hin => ?_⟩
    obtain ⟨h1, h2, h3, h4⟩ := hc i hin
    have hl := World.block_lt_of_cell? w _ h1
    have hq := hi.1 b (by rw [ha]; rfl) hl
    have hbb : w'.heap[b]? = w.heap[b]? := k.block b hq.1 hq.2 hl
    exact ⟨by rw [World.cell?_of_block (w := w) hbb]; exact h1, by rw [World.cell?_of_block (w := w) hbb]; exact h2, by rw [World.cell?_of_block (w := w) hbb]; exact h3, h4.kq (hi.2 i hin) k⟩
theorem Grants.kq {L O : Nat} {w w' : World} {s : Sl} {vs : Nat → Sl} {A : GC} (h : Grants w s vs A) (hi : RQ L O w s vs) (k : Kq L O w w') : Grants w' s vs A := by
  rcases h with h | ⟨b, o, ha, hc⟩
  · exact Or.inl h
  · refine Or.inr ⟨b, o, ha, fun i hin => ?_⟩
    obtain ⟨h1, h2, h3, h4, h5, h6, h7⟩ := hc i hin
    have hl := World.block_lt_of_cell? w _ h1
    have hq := hi.1 b (by rw [ha]; rfl) hl
    have hbb : w'.heap[b]? = w.heap[b]? := k.block b hq.1 hq.2 hl
    exact ⟨by rw [World.cell?_of_block (w := w) hbb]; exact h1, by rw [World.cell?_of_block (w := w) hbb]; exact h2, by rw [World.cell?_of_block (w := w) hbb]; exact h3, by rw [World.cell?_of_block (w := w) hbb]; exact h4,
      by rw [World.cell?_of_block (w := w) hbb]; exact h5, by rw [World.cell?_of_block (w := w) hbb]; exact h6, h7.kq (hi.2 i hin) k⟩

theorem Blk.grown {w w' : World} {B : Nat} {t : TypeId} {cs : Array Value} {row : Option Nat} (h : Blk w B t cs) (hg : w.grownBy w' row) (hne : some B ≠ row) : Blk w' B t cs := by unfold Blk; rw [hg.block B h.lt hne]; exact h

/-- where unlined stands behind its three closures: what was there stays; its box, its result, its two captured closures. -/
structure Cl37 (w : World) (src : Array Value) (wi : World) : Prop where
  below : Below w.heap.size w wi
  box : Blk wi w.heap.size 37 src
  res : Blk wi (w.heap.size + 1) 37 nil6
  fw : Blk wi (w.heap.size + 1 + 1) 101 #[.func (.func 55) #[] #[]]
  fs : Blk wi (w.heap.size + 1 + 1 + 1) 102 #[.func (.func 56) #[] #[.pointer (some ⟨w.heap.size + 1 + 1, 0, none⟩)]]
theorem Cl37.next {w wi wj : World} {src : Array Value} (h : Cl37 w src wi) (hb : Below wi.heap.size wi wj) : Cl37 w src wj :=
  ⟨h.below.trans (hb.mono h.below.size), h.box.next hb, h.res.next hb, h.fw.next hb, h.fs.next hb⟩
theorem Cl37.size {w wi : World} {src : Array Value} (h : Cl37 w src wi) : w.heap.size + 1 + 1 + 1 + 1 ≤ wi.heap.size := h.fs.lt
theorem Cl37.set {w wi : World} {src : Array Value} (h : Cl37 w src wi) {O : Nat} (hO : w.heap.size + 1 + 1 + 1 + 1 ≤ O) (j : Nat) (v : Value) : Cl37 w src (wi.setCell ⟨O, j, none⟩ v) :=
  ⟨h.below.setCell (p := ⟨O, j, none⟩) (by show w.heap.size ≤ O; omega) v, h.box.far _ _ (by show _ ≠ O; omega), h.res.far _ _ (by show _ ≠ O; omega), h.fw.far _ _ (by show _ ≠ O; omega), h.fs.far _ _ (by show _ ≠ O; omega)⟩
theorem Cl37.grown {w wi wj : World} {src : Array Value} {row : Option Nat} (h : Cl37 w src wi) (hg : wi.grownBy wj row) (hr : ∀ k, row = some k → w.heap.size + 1 + 1 + 1 + 1 ≤ k) : Cl37 w src wj :=
  ⟨h.below.grown hg h.below.size (fun k hk => by have := hr k hk; omega), h.box.grown hg (fun e => by have := hr _ e.symm; omega), h.res.grown hg (fun e => by have := hr _ e.symm; omega), h.fw.grown hg (fun e => by have := hr _ e.symm; omega), h.fs.grown hg (fun e => by have := hr _ e.symm; omega)⟩

/-- .. and its variable 'out', in block O. -/
structure St37 (w : World) (O : Nat) (src out : Array Value) (wi : World) : Prop where
  cl : Cl37 w src wi
  out : Blk wi O 37 out
  lo : w.heap.size + 1 + 1 + 1 + 1 ≤ O
theorem St37.next {w wi wj : World} {O : Nat} {src out : Array Value} (h : St37 w O src out wi) (hb : Below wi.heap.size wi wj) : St37 w O src out wj := ⟨h.cl.next hb, h.out.next hb, h.lo⟩
theorem St37.set {w wi : World} {O : Nat} {src out : Array Value} (h : St37 w O src out wi) (j : Nat) (v : Value) : St37 w O src (out.setIfInBounds j v) (wi.setCell ⟨O, j, none⟩ v) := ⟨h.cl.set h.lo j v, h.out.set j v, h.lo⟩
theorem St37.grown {w wi wj : World} {O : Nat} {src out : Array Value} {row : Option Nat} (h : St37 w O src out wi) (hg : wi.grownBy wj row) (hr : ∀ k, row = some k → O < k) : St37 w O src out wj :=
  ⟨h.cl.grown hg (fun k hk => by have := hr k hk; have := h.lo; omega), h.out.grown hg (fun e => by have := hr _ e.symm; omega), h.lo⟩

theorem InW.kp {w w' : World} {base : Nat} {row : Option Nat} {s s' : Sl} {C : WC} (h : InW w base row s s' C) (k : Kp base w w') : InW w' base row s s' C :=
  ⟨h.1, h.2.1.keep fun b hb hbb => k.block b (h.2.2 b hbb).1 hb, fun b hbb => ⟨(h.2.2 b hbb).1, Nat.lt_of_lt_of_le (h.2.2 b hbb).2.1 k.size, (h.2.2 b hbb).2.2⟩⟩
theorem ownsRow_kp {w w' : World} {base : Nat} {e : TypeId} {size : Nat} {v : Value} {n : Nat} {xs : List Value} (h : w.ownsRow base e size v n xs) (k : Kp base w w') : w'.ownsRow base e size v n xs := by
  refine ⟨h.1, ?_⟩
  rcases h.2 with hn | ⟨g, cap, cur, hv, hbs, hg, rest⟩
  · exact .inl hn
  · exact .inr ⟨g, cap, cur, hv, hbs, by rw [k.block g hbs (Array.getElem?_eq_some_iff.1 hg).1]; exact hg, rest⟩
theorem OutX.kp {e : TypeId} {size : Nat} {F : Nat → Sl → List Value} {w w' : World} {base : Nat} {v : Value} {k : Nat} {vs : Nat → Sl} {C : Nat → WC} (h : OutX e size F w base v k vs C) (q : Kp base w w') : OutX e size F w' base v k vs C := by
  obtain ⟨h0, vs', xs, hown, hx⟩ := h
  exact ⟨h0, vs', xs, ownsRow_kp hown q, fun j hj => ⟨(hx j hj).1, (hx j hj).2.kp q⟩⟩

/-- a whole spec written, cell by cell, into the variable 'out'. -/
theorem storeOut {w x0 : World} {B : Nat} {src : Array Value} (hc : Cl37 w src x0) (h0 : Blk x0 B 37 nil6) (lo : w.heap.size + 1 + 1 + 1 + 1 ≤ B) (v0 v1 v2 v3 v4 v5 : Value) :
    ∃ x1 x2 x3 x4 x5 x6 : World, x0.setCell ⟨B, 0, none⟩ v0 = x1 ∧ x1.setCell ⟨B, 1, none⟩ v1 = x2 ∧ x2.setCell ⟨B, 2, none⟩ v2 = x3 ∧ x3.setCell ⟨B, 3, none⟩ v3 = x4 ∧ x4.setCell ⟨B, 4, none⟩ v4 = x5 ∧ x5.setCell ⟨B, 5, none⟩ v5 = x6 ∧
      x0.cell? ⟨B, 0, none⟩ = some (.slice none 0 0) ∧ x0.frozen? ⟨B, 0, none⟩ = false ∧ x1.cell? ⟨B, 1, none⟩ = some (.slice none 0 0) ∧ x1.frozen? ⟨B, 1, none⟩ = false ∧ x2.cell? ⟨B, 2, none⟩ = some (.slice none 0 0) ∧ x2.frozen? ⟨B, 2, none⟩ = false ∧ x3.cell? ⟨B, 3, none⟩ = some (.slice none 0 0) ∧ x3.frozen? ⟨B, 3, none⟩ = false ∧ x4.cell? ⟨B, 4, none⟩ = some (.slice none 0 0) ∧ x4.frozen? ⟨B, 4, none⟩ = false ∧ x5.cell? ⟨B, 5, none⟩ = some (.slice none 0 0) ∧ x5.frozen? ⟨B, 5, none⟩ = false ∧
      Hid (St37 w B src #[v0, v1, v2, v3, v4, v5] x6) ∧ Hid (∀ L, Kq L B x0 x6) := by
  obtain ⟨x1, e1⟩ : ∃ x, x0.setCell ⟨B, 0, none⟩ v0 = x := ⟨_, rfl⟩
  have h1 := h0.set 0 v0
  rw [e1] at h1
  obtain ⟨x2, e2⟩ : ∃ x, x1.setCell ⟨B, 1, none⟩ v1 = x := ⟨_, rfl⟩
  have h2 := h1.set 1 v1
  rw [e2] at h2
  obtain ⟨x3, e3⟩ : ∃ x, x2.setCell ⟨B, 2, none⟩ v2 = x := ⟨_, rfl⟩
  have h3 := h2.set 2 v2
  rw [e3] at h3
  obtain ⟨x4, e4⟩ : ∃ x, x3.setCell ⟨B, 3, none⟩ v3 = x := ⟨_, rfl⟩
  have h4 := h3.set 3 v3
  rw [e4] at h4
  obtain ⟨x5, e5⟩ : ∃ x, x4.setCell ⟨B, 4, none⟩ v4 = x := ⟨_, rfl⟩
  have h5 := h4.set 4 v4
  rw [e5] at h5
  obtain ⟨x6, e6⟩ : ∃ x, x5.setCell ⟨B, 5, none⟩ v5 = x := ⟨_, rfl⟩
  have h6 := h5.set 5 v5
  rw [e6] at h6
  have k1 : (∀ L, Kq L B x0 x1) ∧ (Cl37 w src x0 → Cl37 w src x1) := by rw [← e1]; exact ⟨fun L => (Kq.refl L B x0).set 0 v0, fun h => h.set lo 0 v0⟩
  have k2 : (∀ L, Kq L B x1 x2) ∧ (Cl37 w src x1 → Cl37 w src x2) := by rw [← e2]; exact ⟨fun L => (Kq.refl L B x1).set 1 v1, fun h => h.set lo 1 v1⟩
  have k3 : (∀ L, Kq L B x2 x3) ∧ (Cl37 w src x2 → Cl37 w src x3) := by rw [← e3]; exact ⟨fun L => (Kq.refl L B x2).set 2 v2, fun h => h.set lo 2 v2⟩
  have k4 : (∀ L, Kq L B x3 x4) ∧ (Cl37 w src x3 → Cl37 w src x4) := by rw [← e4]; exact ⟨fun L => (Kq.refl L B x3).set 3 v3, fun h => h.set lo 3 v3⟩
  have k5 : (∀ L, Kq L B x4 x5) ∧ (Cl37 w src x4 → Cl37 w src x5) := by rw [← e5]; exact ⟨fun L => (Kq.refl L B x4).set 4 v4, fun h => h.set lo 4 v4⟩
  have k6 : (∀ L, Kq L B x5 x6) ∧ (Cl37 w src x5 → Cl37 w src x6) := by rw [← e6]; exact ⟨fun L => (Kq.refl L B x5).set 5 v5, fun h => h.set lo 5 v5⟩
  have c0 : x0.cell? ⟨B, 0, none⟩ = some (.slice none 0 0) := h0.cell 0 _ (by simp [nil6])
  have f0 := h0.frozen 0
  have c1 : x1.cell? ⟨B, 1, none⟩ = some (.slice none 0 0) := h1.cell 1 _ (by simp [nil6])
  have f1 := h1.frozen 1
  have c2 : x2.cell? ⟨B, 2, none⟩ = some (.slice none 0 0) := h2.cell 2 _ (by simp [nil6])
  have f2 := h2.frozen 2
  have c3 : x3.cell? ⟨B, 3, none⟩ = some (.slice none 0 0) := h3.cell 3 _ (by simp [nil6])
  have f3 := h3.frozen 3
  have c4 : x4.cell? ⟨B, 4, none⟩ = some (.slice none 0 0) := h4.cell 4 _ (by simp [nil6])
  have f4 := h4.frozen 4
  have c5 : x5.cell? ⟨B, 5, none⟩ = some (.slice none 0 0) := h5.cell 5 _ (by simp [nil6])
  have f5 := h5.frozen 5
  have st : St37 w B src #[v0, v1, v2, v3, v4, v5] x6 := ⟨k6.2 (k5.2 (k4.2 (k3.2 (k2.2 (k1.2 hc))))), by simpa [nil6] using h6, lo⟩
  clear h0 h1 h2 h3 h4 h5 h6
  exact ⟨x1, x2, x3, x4, x5, x6, e1, e2, e3, e4, e5, e6, c0, f0, c1, f1, c2, f2, c3, f3, c4, f4, c5, f5, st,
    fun L => (((((k1.1 L).trans (k2.1 L)).trans (k3.1 L)).trans (k4.1 L)).trans (k5.1 L)).trans (k6.1 L)⟩

/-- a cut whose formula is found by the first use. -/
theorem cut37 {p : Prop} {F : Nat → Sl → Sl → (Nat → Sl) → Sl → (Nat → Sl) → World → Prop} (M : Nat → Sl → Sl → Sl → World → Prop)
    (h : Hid (∀ O p' x' xv' y' yv' W, F O p' x' xv' y' yv' W → M O p' x' y' W) → p) (rest : ∀ O p' x' xv' y' yv' W, F O p' x' xv' y' yv' W → M O p' x' y' W) : p := h rest

theorem all37 {L O v3 v4 v5 : Nat} {w3 w4 w5 W : World} {p' sx sy x' y' : Sl} {xv xv' yv yv' : Nat → Sl} {PB : WC} {XB YB : GC}
    (hw3 : Words w3 p' PB) (f3 : ∀ b, p'.a.map Addr.block = some b → v3 ≤ b) (hw4 : Grants w4 x' xv' XB) (f4 : Ans w4 v4 sx x' xv xv') (hw5 : Grants w5 y' yv' YB) (f5 : Ans w5 v5 sy y' yv yv')
    (l3 : L ≤ v3) (l4 : L ≤ v4) (l5 : L ≤ v5) (o3 : O < v3 ∨ w3.heap.size ≤ O) (o4 : O < v4 ∨ w4.heap.size ≤ O) (o5 : O < v5 ∨ w5.heap.size ≤ O)
    (k34 : Below w3.heap.size w3 w4) (k45 : Below w4.heap.size w4 w5) (k5 : Kq L O w5 W) :
    ∀ wj, Kq L O W wj → Words wj p' PB ∧ Grants wj x' xv' XB ∧ Grants wj y' yv' YB := fun wj k => by
  have q5 : Kq L O w5 wj := k5.trans k
  have q4 : Kq L O w4 wj := ((Kq.refl L O w4).below k45 (Nat.le_refl _)).trans q5
  have q3 : Kq L O w3 wj := ((Kq.refl L O w3).below k34 (Nat.le_refl _)).trans q4
  refine ⟨hw3.kq (fun b hb hl => ?_) q3, hw4.kq ⟨fun b hb hl => ?_, fun i hi b hb hl => ?_⟩ q4, hw5.kq ⟨fun b hb hl => ?_, fun i hi b hb hl => ?_⟩ q5⟩
  · have := f3 b hb; omega
  · have := f4.2.2.1 b hb; omega
  · have := f4.2.2.2 i (by rw [← f4.1.1]; exact hi) b hb; omega
  · have := f5.2.2.1 b hb; omega
  · have := f5.2.2.2 i (by rw [← f5.1.1]; exact hi) b hb; omega

theorem belAlloc (v : World) (o : Obj) : Below v.heap.size v (v.alloc o) := (Below.refl _ _).alloc (Nat.le_refl _) o

theorem Blk.drew {w : World} {B : Nat} {t : TypeId} {cs : Array Value} (h : Blk w B t cs) : Blk w.drew B t cs := h
theorem Cl37.drew {w wi : World} {src : Array Value} (h : Cl37 w src wi) : Cl37 w src wi.drew := ⟨h.below.drew, h.box, h.res, h.fw, h.fs⟩

theorem ltAlloc (v : World) (o : Obj) : v.heap.size < (v.alloc o).heap.size := by simp

end Go.Proofs.Qxb6614661aR
