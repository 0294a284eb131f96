import Derived.Test.Qxb6614661aRXj
namespace Go.Proofs.Qxb6614661aR
open Go.RowKit

theorem allocKeep {w : World} {p : Addr} {v : Value} {o : Obj} (h : w.cell? p = some v) : (w.alloc o).cell? p = some v := cellKeep ((Below.refl _ _).alloc (Nat.le_refl _) o) h
theorem growKeep {w w' : World} {row : Option Nat} {p : Addr} {v : Value} (hg : w.grownBy w' row) (h : w.cell? p = some v) (hne : some p.block ≠ row) : w'.cell? p = some v := by
  rw [hg.cell_far p (World.block_lt_of_cell? w _ h) hne]; exact h

/-- s' is a list of its own that says what C says, without lines, as long as s; it lies from base on and outside 'row'. -/
def InW (w : World) (base : Nat) (row : Option Nat) (s s' : Sl) (C : WC) : Prop :=
  (s'.n = s.n ∧ (s.n = 0 → s' = ⟨none, 0, 0⟩)) ∧ Words w s' C.bare ∧ ∀ b, s'.a.map Addr.block = some b → base ≤ b ∧ b < w.heap.size ∧ some b ≠ row

theorem InW.below {w w' : World} {base B : Nat} {row : Option Nat} {s s' : Sl} {C : WC} (h : InW w base row s s' C) (hb : Below B w w') (hB : w.heap.size ≤ B) : InW w' base row s s' C :=
  ⟨h.1, h.2.1.below hb hB, fun b hbb => ⟨(h.2.2 b hbb).1, Nat.lt_of_lt_of_le (h.2.2 b hbb).2.1 hb.size, (h.2.2 b hbb).2.2⟩⟩

theorem InW.grown {w w' : World} {base g : Nat} {row : Option Nat} {s s' : Sl} {C : WC} (h : InW w base row s s' C) (hg : w.grownBy w' row) (hat : row = some g ∨ g = w.heap.size) : InW w' base (some g) s s' C := by
  refine ⟨h.1, h.2.1.keep fun b hb hbb => hg.block b hb (h.2.2 b hbb).2.2, fun b hbb => ?_⟩
  obtain ⟨h1, h2, h3⟩ := h.2.2 b hbb
  refine ⟨h1, Nat.lt_of_lt_of_le h2 hg.size, ?_⟩
  rcases hat with rfl | rfl
  · exact h3
  · intro e
    have : b = w.heap.size := by simpa using e
    omega

/-- the slice value v owns a row of k elements of 'size' cells; the j-th bears the cells 'F j s'', s' the list within it. -/
def OutX (e : TypeId) (size : Nat) (F : Nat → Sl → List Value) (w : World) (base : Nat) (v : Value) (k : Nat) (vs : Nat → Sl) (C : Nat → WC) : Prop :=
  (k = 0 → v = .slice none 0 0) ∧ ∃ (vs' : Nat → Sl) (xs : List Value), w.ownsRow base e size v k xs ∧ ∀ j, j < k → (∀ i, i < size → xs[j * size + i]? = (F j (vs' j))[i]?) ∧ InW w base v.ownBlock (vs j) (vs' j) (C j)

theorem OutX.below {e : TypeId} {size : Nat} {F : Nat → Sl → List Value} {w w' : World} {base B : Nat} {v : Value} {k : Nat} {vs : Nat → Sl} {C : Nat → WC} (h : OutX e size F w base v k vs C) (hb : Below B w w') (hB : w.heap.size ≤ B) : OutX e size F w' base v k vs C := by
  obtain ⟨h0, vs', xs, hown, hx⟩ := h
  exact ⟨h0, vs', xs, ownsRow_below hown hb hB, fun j hj => ⟨(hx j hj).1, (hx j hj).2.below hb hB⟩⟩

theorem outX_nil (e : TypeId) (size : Nat) (F : Nat → Sl → List Value) (w : World) (base : Nat) (vs : Nat → Sl) (C : Nat → WC) : OutX e size F w base (.slice none 0 0) 0 vs C :=
  ⟨fun _ => rfl, fun _ => ⟨none, 0, 0⟩, [], World.ownsRow_nil _ _ _ _, fun j hj => by omega⟩

theorem outX_snoc {e : TypeId} {size : Nat} {F : Nat → Sl → List Value} {w w' : World} {base g cap : Nat} {v : Value} {k : Nat} {vs vs' : Nat → Sl} {C : Nat → WC} {xs : List Value} {s' : Sl}
    (hlen : xs.length = k * size) (hx : ∀ j, j < k → (∀ i, i < size → xs[j * size + i]? = (F j (vs' j))[i]?) ∧ InW w base v.ownBlock (vs j) (vs' j) (C j))
    (hnew : InW w base v.ownBlock (vs k) s' (C k))
    (hg : w.grownBy w' v.ownBlock) (hat : v.ownBlock = some g ∨ g = w.heap.size)
    (hown : w'.ownsRow base e size (.slice (some ⟨g, 0, none⟩) (k + 1) cap) (k + 1) (xs ++ F k s')) :
    OutX e size F w' base (.slice (some ⟨g, 0, none⟩) (k + 1) cap) (k + 1) vs C := by
  refine ⟨fun h => by omega, fun j => if j = k then s' else vs' j, _, hown, fun j hj => ?_⟩
  by_cases hjk : j = k
  · subst hjk
    dsimp only
    rw [if_pos rfl]
    refine ⟨fun i hi => ?_, hnew.grown hg hat⟩
    rw [List.getElem?_append_right (by omega), hlen]
    congr 1
    omega
  · dsimp only
    rw [if_neg hjk]
    have hjl : j < k := by omega
    refine ⟨fun i hi => ?_, (hx j hjl).2.grown hg hat⟩
    have : (j + 1) * size ≤ k * size := Nat.mul_le_mul_right _ hjl
    rw [Nat.succ_mul] at this
    rw [List.getElem?_append_left (by omega)]
    exact (hx j hjl).1 i hi

def FG (A : GC) (j : Nat) (s : Sl) : List Value := [.int .i64 0, .string (A.t1 j), .int .i64 0, .slice s.a s.n s.c, .string (A.t2 j), .int .i64 0]
def FR (A : RC) (j : Nat) (s : Sl) : List Value := [.string (A.t j), .int .i64 0, .slice s.a s.n s.c]

/-- what is said of an answered list of lists. -/
def Ans (w' : World) (base : Nat) (s s' : Sl) (vs vs' : Nat → Sl) : Prop :=
  (s'.n = s.n ∧ (s.n = 0 → s' = ⟨none, 0, 0⟩)) ∧ (∀ i, i < s.n → (vs' i).n = (vs i).n ∧ ((vs i).n = 0 → vs' i = ⟨none, 0, 0⟩)) ∧ (∀ b, s'.a.map Addr.block = some b → base ≤ b ∧ b < w'.heap.size) ∧ ∀ i, i < s.n → ∀ b, (vs' i).a.map Addr.block = some b → base ≤ b

theorem outX_grants {e : TypeId} {w : World} {base : Nat} {v : Value} {s : Sl} {vs : Nat → Sl} {A : GC} (h : OutX e 6 (FG A) w base v s.n vs A.c) :
    ∃ (s' : Sl) (vs' : Nat → Sl), v = .slice s'.a s'.n s'.c ∧ Grants w s' vs' A.bare ∧ Ans w base s s' vs vs' := by
  obtain ⟨h0, vs', xs, hown, hx⟩ := h
  by_cases hk : s.n = 0
  · exact ⟨⟨none, 0, 0⟩, vs', h0 hk, Or.inl rfl, ⟨hk.symm, fun _ => rfl⟩, fun i hi => by omega, fun b hb => (by cases hb), fun i hi => by omega⟩
  · obtain ⟨g, cap, rfl, hb, hg⟩ := hown.form (by omega)
    refine ⟨⟨some ⟨g, 0, none⟩, s.n, cap⟩, vs', rfl, Or.inr ⟨g, 0, rfl, fun i hi => ?_⟩, ⟨rfl, fun h => absurd h hk⟩, fun i hi => (hx i hi).2.1, fun b hb' => (by cases hb'; exact ⟨hb, hg⟩), fun i hi b hb' => ((hx i hi).2.2.2 b hb').1⟩
    replace hi : i < s.n := hi
    obtain ⟨x, hin⟩ := hx i hi
    have cell : ∀ j u, j < 6 → (FG A i (vs' i))[j]? = some u → w.cell? ⟨g, i * 6 + j, none⟩ = some u := fun j u hj hu => by
      rw [hown.cellAt (i * 6 + j) (by show i * 6 + j < s.n * 6; omega), x j hj]; exact hu
    rw [Nat.zero_add]
    exact ⟨cell 0 _ (by omega) rfl, cell 1 _ (by omega) rfl, cell 2 _ (by omega) rfl, cell 3 _ (by omega) rfl, cell 4 _ (by omega) rfl, cell 5 _ (by omega) rfl, hin.2.1⟩

theorem outX_roles {e : TypeId} {w : World} {base : Nat} {v : Value} {s : Sl} {vs : Nat → Sl} {A : RC} (h : OutX e 3 (FR A) w base v s.n vs A.c) :
    ∃ (s' : Sl) (vs' : Nat → Sl), v = .slice s'.a s'.n s'.c ∧ Roles w s' vs' A.bare ∧ Ans w base s s' vs vs' := by
  obtain ⟨h0, vs', xs, hown, hx⟩ := h
  by_cases hk : s.n = 0
  · exact ⟨⟨none, 0, 0⟩, vs', h0 hk, Or.inl rfl, ⟨hk.symm, fun _ => rfl⟩, fun i hi => by omega, fun b hb => (by cases hb), fun i hi => by omega⟩
  · obtain ⟨g, cap, rfl, hb, hg⟩ := hown.form (by omega)
    refine ⟨⟨some ⟨g, 0, none⟩, s.n, cap⟩, vs', rfl, Or.inr ⟨g, 0, rfl, fun i hi => ?_⟩, ⟨rfl, fun h => absurd h hk⟩, fun i hi => (hx i hi).2.1, fun b hb' => (by cases hb'; exact ⟨hb, hg⟩), fun i hi b hb' => ((hx i hi).2.2.2 b hb').1⟩
    replace hi : i < s.n := hi
    obtain ⟨x, hin⟩ := hx i hi
    have cell : ∀ j u, j < 3 → (FR A i (vs' i))[j]? = some u → w.cell? ⟨g, i * 3 + j, none⟩ = some u := fun j u hj hu => by
      rw [hown.cellAt (i * 3 + j) (by show i * 3 + j < s.n * 3; omega), x j hj]; exact hu
    rw [Nat.zero_add]
    exact ⟨cell 0 _ (by omega) rfl, cell 1 _ (by omega) rfl, cell 2 _ (by omega) rfl, hin.2.1⟩

theorem info104 : (Try.prog.info? 104).map (fun i => (i.zero, i.size, i.bytes)) = some (some (.agg #[.int .i64 0, .string ByteArray.empty, .int .i64 0, .slice none 0 0, .string ByteArray.empty, .int .i64 0]), 6, 80) := by kernel_rfl

end Go.Proofs.Qxb6614661aR
