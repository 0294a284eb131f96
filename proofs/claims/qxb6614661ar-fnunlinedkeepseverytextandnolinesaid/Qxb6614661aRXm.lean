import Derived.Test.Qxb6614661aRXk
namespace Go.Proofs.Qxb6614661aR
open Go.RowKit

theorem setKeep {w : World} {p a : Addr} {v u : Value} (h : w.cell? p = some v) (hne : p.block ≠ a.block) : (w.setCell a u).cell? p = some v := by
  rw [cell_ne _ _ _ _ (Or.inl hne)]; exact h

/-- from w to w' the cells vs were written into block g from o on; all else is as it was. -/
structure Wrote (w w' : World) (g o : Nat) (vs : List Value) : Prop where
  new : ∀ i v, vs[i]? = some v → w'.cell? ⟨g, o + i, none⟩ = some v
  old : ∀ p : Addr, p.off < o → w'.cell? p = w.cell? p
  far : ∀ b, b ≠ g → w'.heap[b]? = w.heap[b]?

theorem Wrote.nil (w : World) (g o : Nat) : Wrote w w g o [] := ⟨fun i v h => by simp at h, fun _ _ => rfl, fun _ _ => rfl⟩
theorem Wrote.snoc {w w' : World} {g o N : Nat} {e : TypeId} {vs : List Value} (h : Wrote w w' g o vs) (ho : Ow w' g e N) (j : Nat) (hj : j = o + vs.length) (hN : j < N) (v : Value) : Wrote w (w'.setCell ⟨g, j, none⟩ v) g o (vs ++ [v]) := by
  subst hj
  refine ⟨fun i u hu => ?_, fun p hp => ?_, fun b hb => ?_⟩
  · by_cases hi : i < vs.length
    · rw [List.getElem?_append_left hi] at hu
      rw [cell_ne _ _ _ _ (Or.inr (by show o + i ≠ o + vs.length; omega))]
      exact h.new i u hu
    · rw [List.getElem?_append_right (by omega)] at hu
      have hi2 : i = vs.length := by
        by_cases hi3 : i = vs.length
        · exact hi3
        · rw [List.getElem?_eq_none (by simp; omega)] at hu
          cases hu
      subst hi2
      simp at hu
      subst hu
      obtain ⟨u, hc⟩ := ho.cell _ hN
      exact World.cell?_setCell_same _ _ _ hc
  · rw [cell_ne _ _ _ _ (Or.inr (by show p.off ≠ o + vs.length; omega))]
    exact h.old p hp
  · rw [Below.heap_setCell _ _ _ _ hb]
    exact h.far b hb

/-- of the row in block g the first k elements are written; the j-th bears the cells 'F j s'', s' the list within it. -/
def FstX (size : Nat) (F : Nat → Sl → List Value) (w : World) (g k : Nat) (vs : Nat → Sl) (C : Nat → WC) : Prop :=
  ∃ vs' : Nat → Sl, ∀ j, j < k → (∀ i v, (F j (vs' j))[i]? = some v → w.cell? ⟨g, j * size + i, none⟩ = some v) ∧ (vs' j).n = (vs j).n ∧ Words w (vs' j) (C j) ∧ ∀ b, (vs' j).a.map Addr.block = some b → g < b

theorem FstX.below {size : Nat} {F : Nat → Sl → List Value} {w w' : World} {g k B : Nat} {vs : Nat → Sl} {C : Nat → WC} (h : FstX size F w g k vs C) (hb : Below B w w') (hB : w.heap.size ≤ B) : FstX size F w' g k vs C := by
  obtain ⟨vs', h⟩ := h
  refine ⟨vs', fun j hj => ?_⟩
  obtain ⟨h1, h2, h3, h4⟩ := h j hj
  exact ⟨fun i v hv => cellKeep (hb.mono hB) (h1 i v hv), h2, h3.below hb hB, h4⟩

theorem fstX_nil (size : Nat) (F : Nat → Sl → List Value) (w : World) (g : Nat) (vs : Nat → Sl) (C : Nat → WC) : FstX size F w g 0 vs C := ⟨fun _ => ⟨none, 0, 0⟩, fun j hj => by omega⟩

theorem fstX_snoc {size : Nat} {F : Nat → Sl → List Value} {w w' : World} {g k : Nat} {vs : Nat → Sl} {C : Nat → WC} {s' : Sl} (hF : ∀ j s, (F j s).length = size) (h : FstX size F w g k vs C) (hw : Wrote w w' g (k * size) (F k s'))
    (hn : s'.n = (vs k).n) (hs : Words w s' (C k)) (hfr : ∀ b, s'.a.map Addr.block = some b → g < b) : FstX size F w' g (k + 1) vs C := by
  obtain ⟨vs', h⟩ := h
  refine ⟨fun j => if j = k then s' else vs' j, fun j hj => ?_⟩
  by_cases hjk : j = k
  · subst hjk
    dsimp only
    rw [if_pos rfl]
    exact ⟨hw.new, hn, hs.keep fun b _ hbb => hw.far b (Nat.ne_of_gt (hfr b hbb)), hfr⟩
  · dsimp only
    rw [if_neg hjk]
    have hjl : j < k := by omega
    obtain ⟨h1, h2, h3, h4⟩ := h j hjl
    refine ⟨fun i v hv => ?_, h2, h3.keep fun b _ hbb => hw.far b (Nat.ne_of_gt (h4 b hbb)), h4⟩
    have hi : i < size := by
      have := (List.getElem?_eq_some_iff.1 hv).1
      rwa [hF] at this
    have : (j + 1) * size ≤ k * size := Nat.mul_le_mul_right _ hjl
    rw [Nat.succ_mul] at this
    rw [hw.old _ (by show j * size + i < k * size; omega)]
    exact h1 i v hv

def GG (A : GC) (j : Nat) (s : Sl) : List Value := [.int .i64 (A.l0 j), .string (A.t1 j), .int .i64 (A.l1 j), .slice s.a s.n s.c, .string (A.t2 j), .int .i64 (A.l2 j)]
def GR (A : RC) (j : Nat) (s : Sl) : List Value := [.string (A.t j), .int .i64 (A.l j), .slice s.a s.n s.c]

theorem fstX_grants {w : World} {g n c : Nat} {vs : Nat → Sl} {A : GC} (h : FstX 6 (GG A) w g n vs A.c) : ∃ vs' : Nat → Sl, Grants w ⟨some ⟨g, 0, none⟩, n, c⟩ vs' A ∧ (∀ i, i < n → (vs' i).n = (vs i).n) ∧ ∀ i, i < n → ∀ b, (vs' i).a.map Addr.block = some b → g < b := by
  obtain ⟨vs', h⟩ := h
  refine ⟨vs', Or.inr ⟨g, 0, rfl, fun i hi => ?_⟩, fun i hi => (h i hi).2.1, fun i hi => (h i hi).2.2.2⟩
  obtain ⟨h1, _, h3, _⟩ := h i hi
  rw [Nat.zero_add]
  exact ⟨h1 0 _ rfl, h1 1 _ rfl, h1 2 _ rfl, h1 3 _ rfl, h1 4 _ rfl, h1 5 _ rfl, h3⟩
theorem fstX_roles {w : World} {g n c : Nat} {vs : Nat → Sl} {A : RC} (h : FstX 3 (GR A) w g n vs A.c) : ∃ vs' : Nat → Sl, Roles w ⟨some ⟨g, 0, none⟩, n, c⟩ vs' A ∧ (∀ i, i < n → (vs' i).n = (vs i).n) ∧ ∀ i, i < n → ∀ b, (vs' i).a.map Addr.block = some b → g < b := by
  obtain ⟨vs', h⟩ := h
  refine ⟨vs', Or.inr ⟨g, 0, rfl, fun i hi => ?_⟩, fun i hi => (h i hi).2.1, fun i hi => (h i hi).2.2.2⟩
  obtain ⟨h1, _, h3, _⟩ := h i hi
  rw [Nat.zero_add]
  exact ⟨h1 0 _ rfl, h1 1 _ rfl, h1 2 _ rfl, h3⟩

theorem make35 (n : Nat) (h : n ≤ 1048576) (w : World) : (Instr.makeSlice 35 (.int .i64 (n : Int)) (.int .i64 (n : Int))).run Try.prog w =
    .ok (.slice (some ⟨w.heap.size, 0, none⟩) n n) (w.alloc (.cells (madeCells #[.int .i64 0, .string ByteArray.empty, .int .i64 0, .slice none 0 0, .string ByteArray.empty, .int .i64 0] (n * 6)) 104)) := by
  obtain ⟨i0, hi, hz0, hz1, hz2⟩ := info_parts info104
  have := run_make w (P := Try.prog) 35 104 i0 _ Try.underlying35 hi hz0 .i64 .i64 n n (by omega) (by omega) (by rw [hz2]; omega) (by omega)
  rw [this, hz1]
  simp [Value.cells]
end Go.Proofs.Qxb6614661aR
