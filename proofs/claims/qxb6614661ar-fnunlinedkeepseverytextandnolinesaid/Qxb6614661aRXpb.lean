import Derived.Test.Qxb6614661aRXp
namespace Go.Proofs.Qxb6614661aR
open Go.RowKit

/-- a whole spec written, cell by cell, into a block of six empty lists. -/
theorem storeRes {x0 : World} {B : Nat} (h0 : Blk x0 B 37 nil6) (v0 v1 v2 v3 v4 v5 : Value) :
    ∃ x1 x2 x3 x4 x5 x6 : World, x0.setCell ⟨B, 0, none⟩ v0 = x1 ∧ x1.setCell ⟨B, 1, none⟩ v1 = x2 ∧ x2.setCell ⟨B, 2, none⟩ v2 = x3 ∧ x3.setCell ⟨B, 3, none⟩ v3 = x4 ∧ x4.setCell ⟨B, 4, none⟩ v4 = x5 ∧ x5.setCell ⟨B, 5, none⟩ v5 = x6 ∧
      x0.cell? ⟨B, 0, none⟩ = some (.slice none 0 0) ∧ x0.frozen? ⟨B, 0, none⟩ = false ∧ x1.cell? ⟨B, 1, none⟩ = some (.slice none 0 0) ∧ x1.frozen? ⟨B, 1, none⟩ = false ∧ x2.cell? ⟨B, 2, none⟩ = some (.slice none 0 0) ∧ x2.frozen? ⟨B, 2, none⟩ = false ∧
      x3.cell? ⟨B, 3, none⟩ = some (.slice none 0 0) ∧ x3.frozen? ⟨B, 3, none⟩ = false ∧ x4.cell? ⟨B, 4, none⟩ = some (.slice none 0 0) ∧ x4.frozen? ⟨B, 4, none⟩ = false ∧ x5.cell? ⟨B, 5, none⟩ = some (.slice none 0 0) ∧ x5.frozen? ⟨B, 5, none⟩ = false ∧
      x6.cell? ⟨B, 0, none⟩ = some v0 ∧ x6.cell? ⟨B, 1, none⟩ = some v1 ∧ x6.cell? ⟨B, 2, none⟩ = some v2 ∧ x6.cell? ⟨B, 3, none⟩ = some v3 ∧ x6.cell? ⟨B, 4, none⟩ = some v4 ∧ x6.cell? ⟨B, 5, none⟩ = some v5 ∧
      Hid (∀ L, B < L → Kp L x0 x6) ∧ Hid (∀ C, C ≤ B → Below C x0 x6) := by
  obtain ⟨x1, e1⟩ : ∃ x, x0.setCell ⟨B, 0, none⟩ v0 = x := ⟨_, rfl⟩
  have h1 := h0.set 0 v0
  rw [e1] at h1
  obtain ⟨x2, e2⟩ : ∃ x, x1.setCell ⟨B, 1, none⟩ v1 = x := ⟨_, rfl⟩
  have h2 := h1.set 1 v1
  rw [e2] at h2
  obtain ⟨x3, e3⟩ : ∃ x, x2.setCell ⟨B, 2, none⟩ v2 = x := ⟨_, rfl⟩
  have h3 := h2.set 2 v2
  rw [e3] at h3
  obtain ⟨x4, e4⟩ : ∃ x, x3.setCell ⟨B, 3, none⟩ v3 = x := ⟨_, rfl⟩
  have h4 := h3.set 3 v3
  rw [e4] at h4
  obtain ⟨x5, e5⟩ : ∃ x, x4.setCell ⟨B, 4, none⟩ v4 = x := ⟨_, rfl⟩
  have h5 := h4.set 4 v4
  rw [e5] at h5
  obtain ⟨x6, e6⟩ : ∃ x, x5.setCell ⟨B, 5, none⟩ v5 = x := ⟨_, rfl⟩
  have h6 := h5.set 5 v5
  rw [e6] at h6
  have k1 : (∀ L, B < L → Kp L x0 x1) ∧ ∀ C, C ≤ B → Below C x0 x1 := by rw [← e1]; exact ⟨fun L hL => (Kp.refl L x0).set ⟨B, 0, none⟩ v0 (Or.inl hL), fun C hC => (Below.refl C x0).setCell (p := ⟨B, 0, none⟩) hC v0⟩
  have k2 : (∀ L, B < L → Kp L x1 x2) ∧ ∀ C, C ≤ B → Below C x1 x2 := by rw [← e2]; exact ⟨fun L hL => (Kp.refl L x1).set ⟨B, 1, none⟩ v1 (Or.inl hL), fun C hC => (Below.refl C x1).setCell (p := ⟨B, 1, none⟩) hC v1⟩
  have k3 : (∀ L, B < L → Kp L x2 x3) ∧ ∀ C, C ≤ B → Below C x2 x3 := by rw [← e3]; exact ⟨fun L hL => (Kp.refl L x2).set ⟨B, 2, none⟩ v2 (Or.inl hL), fun C hC => (Below.refl C x2).setCell (p := ⟨B, 2, none⟩) hC v2⟩
  have k4 : (∀ L, B < L → Kp L x3 x4) ∧ ∀ C, C ≤ B → Below C x3 x4 := by rw [← e4]; exact ⟨fun L hL => (Kp.refl L x3).set ⟨B, 3, none⟩ v3 (Or.inl hL), fun C hC => (Below.refl C x3).setCell (p := ⟨B, 3, none⟩) hC v3⟩
  have k5 : (∀ L, B < L → Kp L x4 x5) ∧ ∀ C, C ≤ B → Below C x4 x5 := by rw [← e5]; exact ⟨fun L hL => (Kp.refl L x4).set ⟨B, 4, none⟩ v4 (Or.inl hL), fun C hC => (Below.refl C x4).setCell (p := ⟨B, 4, none⟩) hC v4⟩
  have k6 : (∀ L, B < L → Kp L x5 x6) ∧ ∀ C, C ≤ B → Below C x5 x6 := by rw [← e6]; exact ⟨fun L hL => (Kp.refl L x5).set ⟨B, 5, none⟩ v5 (Or.inl hL), fun C hC => (Below.refl C x5).setCell (p := ⟨B, 5, none⟩) hC v5⟩
  have c0 : x0.cell? ⟨B, 0, none⟩ = some (.slice none 0 0) := h0.cell 0 _ (by simp [nil6])
  have f0 := h0.frozen 0
  have c1 : x1.cell? ⟨B, 1, none⟩ = some (.slice none 0 0) := h1.cell 1 _ (by simp [nil6])
  have f1 := h1.frozen 1
  have c2 : x2.cell? ⟨B, 2, none⟩ = some (.slice none 0 0) := h2.cell 2 _ (by simp [nil6])
  have f2 := h2.frozen 2
  have c3 : x3.cell? ⟨B, 3, none⟩ = some (.slice none 0 0) := h3.cell 3 _ (by simp [nil6])
  have f3 := h3.frozen 3
  have c4 : x4.cell? ⟨B, 4, none⟩ = some (.slice none 0 0) := h4.cell 4 _ (by simp [nil6])
  have f4 := h4.frozen 4
  have c5 : x5.cell? ⟨B, 5, none⟩ = some (.slice none 0 0) := h5.cell 5 _ (by simp [nil6])
  have f5 := h5.frozen 5
  have t0 : x6.cell? ⟨B, 0, none⟩ = some v0 := h6.cell 0 _ (by simp [nil6])
  have t1 : x6.cell? ⟨B, 1, none⟩ = some v1 := h6.cell 1 _ (by simp [nil6])
  have t2 : x6.cell? ⟨B, 2, none⟩ = some v2 := h6.cell 2 _ (by simp [nil6])
  have t3 : x6.cell? ⟨B, 3, none⟩ = some v3 := h6.cell 3 _ (by simp [nil6])
  have t4 : x6.cell? ⟨B, 4, none⟩ = some v4 := h6.cell 4 _ (by simp [nil6])
  have t5 : x6.cell? ⟨B, 5, none⟩ = some v5 := h6.cell 5 _ (by simp [nil6])
  clear h0 h1 h2 h3 h4 h5 h6
  exact ⟨x1, x2, x3, x4, x5, x6, e1, e2, e3, e4, e5, e6, c0, f0, c1, f1, c2, f2, c3, f3, c4, f4, c5, f5,
    t0, t1, t2, t3, t4, t5,
    fun L hL => (((((k1.1 L hL).trans (k2.1 L hL)).trans (k3.1 L hL)).trans (k4.1 L hL)).trans (k5.1 L hL)).trans (k6.1 L hL),
    fun C hC => (((((k1.2 C hC).trans (k2.2 C hC)).trans (k3.2 C hC)).trans (k4.2 C hC)).trans (k5.2 C hC)).trans (k6.2 C hC)⟩

end Go.Proofs.Qxb6614661aR
