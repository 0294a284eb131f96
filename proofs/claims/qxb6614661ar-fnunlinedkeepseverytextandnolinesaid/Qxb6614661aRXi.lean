import Derived.Test.Qxb6614661aRXh
import Derived.OwnWalk
import Derived.Laws.MakeOwn
namespace Go.Proofs.Qxb6614661aR
open Go.RowKit

/-- block g is a row of N cells of element type e, none of them frozen. -/
def Ow (w : World) (g : Nat) (e : TypeId) (N : Nat) : Prop := ∃ cur : Array Value, w.heap[g]? = some (.cells cur e (0, 0)) ∧ cur.size = N
theorem Ow.cell {w : World} {g : Nat} {e : TypeId} {N : Nat} (h : Ow w g e N) (j : Nat) (hj : j < N) : ∃ v, w.cell? ⟨g, j, none⟩ = some v := by
  obtain ⟨cur, h1, h2⟩ := h
  refine ⟨cur[j]'(by omega), ?_⟩
  unfold World.cell?
  rw [h1]
  simp [show j < cur.size by omega]
theorem Ow.frozen {w : World} {g : Nat} {e : TypeId} {N : Nat} (h : Ow w g e N) (j : Nat) : w.frozen? ⟨g, j, none⟩ = false := by
  obtain ⟨cur, h1, h2⟩ := h
  unfold World.frozen?
  rw [h1]
  simp
theorem Ow.lt {w : World} {g : Nat} {e : TypeId} {N : Nat} (h : Ow w g e N) : g < w.heap.size := by
  obtain ⟨cur, h1, h2⟩ := h
  exact (Array.getElem?_eq_some_iff.1 h1).1
theorem Ow.setCell {w : World} {g : Nat} {e : TypeId} {N : Nat} (h : Ow w g e N) (a : Addr) (v : Value) : Ow (w.setCell a v) g e N := by
  obtain ⟨cur, h1, h2⟩ := h
  by_cases hg : g = a.block
  · subst hg
    refine ⟨if a.spot.isSome then cur else cur.setIfInBounds a.off v, ?_, ?_⟩
    · simp only [World.setCell, Array.getElem?_modify]
      rw [if_pos trivial, h1]
      rfl
    · split
      · exact h2
      · simpa using h2
  · exact ⟨cur, by rw [Below.heap_setCell _ _ _ _ hg]; exact h1, h2⟩
theorem Ow.below {w w' : World} {g B : Nat} {e : TypeId} {N : Nat} (h : Ow w g e N) (hb : Below B w w') (hg : g < B) : Ow w' g e N := by
  obtain ⟨cur, h1, h2⟩ := h
  exact ⟨cur, by rw [hb.block g hg]; exact h1, h2⟩
theorem ow_made (w : World) (z : Array Value) (n : Nat) (e : TypeId) : Ow (w.alloc (.cells (madeCells z n) e)) w.heap.size e n :=
  ⟨madeCells z n, heap_alloc_new w _, size_madeCells z n⟩
theorem cell_ne (w : World) (a x : Addr) (v : Value) (h : x.block ≠ a.block ∨ x.off ≠ a.off) : (w.setCell a v).cell? x = w.cell? x :=
  World.cell?_setCell_other _ _ _ _ (fun e => by subst e; rcases h with h | h <;> exact h rfl)

theorem info79 : (Try.prog.info? 79).map (fun i => (i.zero, i.size, i.bytes)) = some (some (.agg #[.string ByteArray.empty, .int .i64 0]), 2, 24) := by kernel_rfl
theorem make31 (n : Nat) (h : n ≤ 1048576) (w : World) : (Instr.makeSlice 31 (.int .i64 (n : Int)) (.int .i64 (n : Int))).run Try.prog w =
    .ok (.slice (some ⟨w.heap.size, 0, none⟩) n n) (w.alloc (.cells (madeCells #[.string ByteArray.empty, .int .i64 0] (n * 2)) 79)) := by
  obtain ⟨i0, hi, hz0, hz1, hz2⟩ := info_parts info79
  have := run_make w (P := Try.prog) 31 79 i0 _ Try.underlying31 hi hz0 .i64 .i64 n n (by omega) (by omega) (by rw [hz2]; omega) (by omega)
  rw [this, hz1]
  simp [Value.cells]

/-- what zzToWords answers: a new list of the same words. -/
def PostWs (s : Sl) (A : WC) (w : World) (e : Ending) (w' : World) : Prop :=
  ∃ s' : Sl, e = .returned (.slice s'.a s'.n s'.c) ∧ s'.n = s.n ∧ Words w' s' A ∧ Below w.heap.size w w' ∧ ∀ b, s'.a.map Addr.block = some b → w.heap.size ≤ b

def First (w : World) (g k : Nat) (A : WC) : Prop := ∀ j, j < k → w.cell? ⟨g, j * 2, none⟩ = some (.string (A.t j)) ∧ w.cell? ⟨g, j * 2 + 1, none⟩ = some (.int .i64 (A.l j))

set_option maxRecDepth 100000 in
set_option maxHeartbeats 1000000 in
theorem w38 (s : Sl) (A : WC) (w : World) (hs : Words w s A) (hm : s.n ≤ 1048576) : Calls Try.prog 38 #[.slice s.a s.n s.c] w (PostWs s A w) := by
  have HS := hid hs
  clear hs
  obtain ⟨a, n, c⟩ := s
  dsimp only at hm ⊢
  cases a with
  | none =>
    have h0 : n = 0 := by
      rcases HS.out with h | ⟨b, o, ha, _⟩
      · exact h
      · cases ha
    subst h0
    have hnil : ∀ w : World, (binOp .eql 22 (.slice none 0 c) (.slice none 0 0)).run Try.prog w = .ok (.bool true) w := fun w => Lib.run_eql_slice_nil w 22 _ none 0 c 0 0 Try.underlying22
    go_enter Try.func38, Try.ntmps38
    go_wp2
    go_ret
    exact ⟨⟨none, 0, 0⟩, rfl, rfl, Or.inl rfl, Below.refl _ _, fun b hb => by cases hb⟩
  | some x =>
    have hnil : ∀ w : World, (binOp .eql 22 (.slice (some x) n c) (.slice none 0 0)).run Try.prog w = .ok (.bool false) w := fun w => Lib.run_eql_slice_nil w 22 _ (some x) n c 0 0 Try.underlying22
    have hmk := fun w => make31 n hm w
    go_enter Try.func38, Try.ntmps38
    go_wp2
    go_loopw [4] (fun i wr => ∃ k : Nat, k ≤ n ∧ i = .int .i64 k ∧ Hid (Ow wr w.heap.size 79 (n * 2)) ∧ Hid (First wr w.heap.size k A) ∧ Hid (Below w.heap.size w wr)) (fun i _ => n - (intOf i).toNat)
    case atStart => exact ⟨0, Nat.zero_le _, rfl, ow_made w _ _ _, fun j hj => by omega, (Below.refl _ _).alloc (Nat.le_refl _) _⟩
    case round =>
      clear hmk hnil
      obtain ⟨k, hk, rfl, OW, FI, HB⟩ := hrel
      by_cases hlt : k < n
      · rcases HS.out with h | ⟨b, o, ha, hc⟩
        · exact absurd h (by dsimp only; omega)
        obtain ⟨f1, f2⟩ := hc k hlt
        obtain rfl : x = ⟨b, o, none⟩ := by simpa using ha
        have f1' : wr.cell? ⟨b, o + k * 2, none⟩ = some (.string (A.t k)) := cellKeep HB.out f1
        have f2' : wr.cell? ⟨b, o + k * 2 + 1, none⟩ = some (.int .i64 (A.l k)) := cellKeep HB.out f2
        clear hc f1 f2 ha
        go_wp2_with fail
        refine (w39 _ _ _).mono ?_
        rintro e w2 ⟨rfl, hb2⟩
        have ow2 := OW.out.below hb2 OW.out.lt
        obtain ⟨u0, c0⟩ := ow2.cell (k * 2) (by omega)
        obtain ⟨u1, c1⟩ := ow2.cell (k * 2 + 1) (by omega)
        have z0 := ow2.frozen (k * 2)
        have z1 := ow2.frozen (k * 2 + 1)
        have OW2 := hid ow2
        have HB2 := hid hb2
        clear ow2 hb2
        go_wp2
        go_roundw
        case rel =>
          refine ⟨k + 1, by omega, by go_num, (OW2.out.setCell _ _).setCell _ _, fun j hj => ?_, ((HB.out.trans (HB2.out.mono HB.out.size)).setCell (p := ⟨w.heap.size, k * 2, none⟩) (Nat.le_refl _) _).setCell (p := ⟨w.heap.size, k * 2 + 1, none⟩) (Nat.le_refl _) _⟩
          by_cases hjk : j = k
          · subst hjk
            constructor
            · rw [cell_ne _ _ _ _ (Or.inr (by simp))]
              exact World.cell?_setCell_same _ _ _ c0
            · exact World.cell?_setCell_same _ _ _ (by rw [cell_ne _ _ _ _ (Or.inr (by simp))]; exact c1)
          · obtain ⟨p1, p2⟩ := FI.out j (by omega)
            constructor
            · rw [cell_ne _ _ _ _ (Or.inr (by show j * 2 ≠ k * 2 + 1; omega)), cell_ne _ _ _ _ (Or.inr (by show j * 2 ≠ k * 2; omega))]
              exact cellKeep HB2.out p1
            · rw [cell_ne _ _ _ _ (Or.inr (by show j * 2 + 1 ≠ k * 2 + 1; omega)), cell_ne _ _ _ _ (Or.inr (by show j * 2 + 1 ≠ k * 2; omega))]
              exact cellKeep HB2.out p2
        case measure => simp [intOf]; omega
      · obtain rfl : k = n := by omega
        go_wp2
        go_ret
        exact ⟨⟨some ⟨w.heap.size, 0, none⟩, k, k⟩, rfl, rfl, Or.inr ⟨w.heap.size, 0, rfl, fun i hi => by rw [Nat.zero_add]; exact FI.out i hi⟩, HB.out, fun b hb => by cases hb; exact Nat.le_refl _⟩

end Go.Proofs.Qxb6614661aR
