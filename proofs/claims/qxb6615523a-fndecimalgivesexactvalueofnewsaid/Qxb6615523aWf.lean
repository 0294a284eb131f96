import Derived.Test.Qxb6615523aWe
namespace Go.Proofs.Qxb6615523a
open Go.RowKit

set_option maxHeartbeats 400000 in
theorem w16 (hi lo x : Int) (ng : Bool) (w : World) : Calls Try.prog 16 #[.agg #[.int .u64 hi, .int .u64 lo, .int .i32 x, .bool ng, .pointer none]] w fun e w' => e = .returned (.bool false) ∧
    w' = w.alloc (.cells #[.int .u64 hi, .int .u64 lo, .int .i32 x, .bool ng, .pointer none] 27) := by
  go_enter Try.func16, Try.ntmps16
  go_wp2
  go_ret
  exact ⟨rfl, rfl⟩

theorem second {w w1 : World} {A B C : Obj} {n : Nat} (hb : Below n (((w.alloc A).alloc B).alloc C) w1) (hn : w.heap.size + 2 ≤ n) : w1.heap[w.heap.size + 1]? = some B := by
  rw [hb.block _ (by omega), Below.heap_alloc _ _ _ (by simp)]
  simpa using heap_alloc_new (w.alloc A) B

theorem first3 {w w1 : World} {A B C : Obj} {n : Nat} (hb : Below n (((w.alloc A).alloc B).alloc C) w1) (hn : w.heap.size + 1 ≤ n) : w1.heap[w.heap.size]? = some A := by
  rw [hb.block _ (by omega), Below.heap_alloc _ _ _ (by simp; omega), Below.heap_alloc _ _ _ (by simp)]
  exact heap_alloc_new w A

set_option maxHeartbeats 400000 in
theorem w9a (lo x : Int) (w : World) (h0 : 0 < lo) (h1 : lo ≤ 9223372036854775807) : Calls Try.prog 9 #[.agg #[.int .u64 0, .int .u64 lo, .int .i32 x, .bool true, .pointer none]] w (GivesDec true lo x w) := by
  have H20 := hid (fun w => w20 (-lo) x true lo w (fun w => w33 true lo w (by omega) h1 (by omega)))
  have H16 := hid (fun w => w16 0 lo x true w)
  go_enter Try.func9, Try.ntmps9
  go_wp2_with fail
  refine (H16.out _).mono ?_
  rintro e w1 ⟨rfl, rfl⟩
  go_wp2_with fail
  refine (H20.out _).mono ?_
  rintro e w1 ⟨p, rfl, h1, h3⟩
  have hn := second h3 (by simp)
  have hz : w.heap.size + 1 < w1.heap.size := lt_of hn
  have c0 : w1.cell? ⟨w.heap.size + 1, 0, none⟩ = some (.pointer none) := by rw [cell_of hn]; rfl
  have c1 : w1.cell? ⟨w.heap.size + 1, 1, none⟩ = some (.int .i32 0) := by rw [cell_of hn]; rfl
  have f0 := free_of hn 0
  have f1 := free_of hn 1
  have HB : Hid (Below w.heap.size w w1) := ((((Below.refl _ _).alloc (Nat.le_refl _) _).alloc (by simp) _).alloc (by simp; omega) _).trans (h3.mono (by simp; omega))
  have H2 := hid (((h1.setCell (w.heap.size + 1) 0 (.pointer (some ⟨p, 0, none⟩)) (by simp)).setCell (w.heap.size + 1) 1 (.int .i32 x) (by simp)).mono (D := w.heap.size) (by simp; omega))
  clear h1 h3 hn H20 H16
  go_wp2_with fail
  exact bodyPost_ret (v := .agg #[.pointer (some ⟨p, 0, none⟩), .int .i32 x]) (by simp [results, Try.results9, go_sem, c0, c1]) rfl
    ⟨p, rfl, H2.out, (HB.out.setCell (p := ⟨w.heap.size + 1, 0, none⟩) (Nat.le_succ _) _).setCell (p := ⟨w.heap.size + 1, 1, none⟩) (Nat.le_succ _) _⟩

set_option maxHeartbeats 400000 in
theorem w9b (lo x : Int) (w : World) (h0 : 0 ≤ lo) (h1 : lo ≤ 9223372036854775807) : Calls Try.prog 9 #[.agg #[.int .u64 0, .int .u64 lo, .int .i32 x, .bool false, .pointer none]] w (GivesDec false lo x w) := by
  have H20 := hid (fun w => w20 lo x false lo w (fun w => w33 false lo w (by omega) h1 (by simp)))
  have H16 := hid (fun w => w16 0 lo x false w)
  go_enter Try.func9, Try.ntmps9
  go_wp2_with fail
  refine (H16.out _).mono ?_
  rintro e w1 ⟨rfl, rfl⟩
  go_wp2_with fail
  refine (H20.out _).mono ?_
  rintro e w1 ⟨p, rfl, h1, h3⟩
  have hn := second h3 (by simp)
  have hz : w.heap.size + 1 < w1.heap.size := lt_of hn
  have c0 : w1.cell? ⟨w.heap.size + 1, 0, none⟩ = some (.pointer none) := by rw [cell_of hn]; rfl
  have c1 : w1.cell? ⟨w.heap.size + 1, 1, none⟩ = some (.int .i32 0) := by rw [cell_of hn]; rfl
  have f0 := free_of hn 0
  have f1 := free_of hn 1
  have HB : Hid (Below w.heap.size w w1) := ((((Below.refl _ _).alloc (Nat.le_refl _) _).alloc (by simp) _).alloc (by simp; omega) _).trans (h3.mono (by simp; omega))
  have H2 := hid (((h1.setCell (w.heap.size + 1) 0 (.pointer (some ⟨p, 0, none⟩)) (by simp)).setCell (w.heap.size + 1) 1 (.int .i32 x) (by simp)).mono (D := w.heap.size) (by simp; omega))
  clear h1 h3 hn H20 H16
  go_wp2_with fail
  exact bodyPost_ret (v := .agg #[.pointer (some ⟨p, 0, none⟩), .int .i32 x]) (by simp [results, Try.results9, go_sem, c0, c1]) rfl
    ⟨p, rfl, H2.out, (HB.out.setCell (p := ⟨w.heap.size + 1, 0, none⟩) (Nat.le_succ _) _).setCell (p := ⟨w.heap.size + 1, 1, none⟩) (Nat.le_succ _) _⟩

set_option maxHeartbeats 400000 in
theorem w9c (lo x : Int) (w : World) (h0 : 9223372036854775807 < lo) : Calls Try.prog 9 #[.agg #[.int .u64 0, .int .u64 lo, .int .i32 x, .bool false, .pointer none]] w (GivesDec false lo x w) := by
  have H16 := hid (fun w => w16 0 lo x false w)
  have hlo : (lo == 0) = false := by simp; omega
  have hd : decide (lo ≤ 9223372036854775807) = false := by simp; omega
  go_enter Try.func9, Try.ntmps9
  go_wp2_with fail
  refine (H16.out _).mono ?_
  rintro e w1 ⟨rfl, rfl⟩
  go_wp2_with fail
  refine (w21 (w.heap.size + 1 + 1 + 1) lo _ hlo (by omega) (by simpa using heap_alloc_new (((w.alloc (.cells #[.int .u64 0, .int .u64 lo, .int .i32 x, .bool false, .pointer none] 27)).alloc (.cells #[.pointer none, .int .i32 0] 37)).alloc (.cells #[.int .u64 0, .int .u64 lo, .int .i32 x, .bool false, .pointer none] 27)) (.cells #[.bool false, .slice none 0 0] 51))).mono ?_
  rintro e w1 ⟨rfl, hb1, bel1⟩
  have bel1' : Below (w.heap.size + 1 + 1 + 1) (((w.alloc (.cells #[.int .u64 0, .int .u64 lo, .int .i32 x, .bool false, .pointer none] 27)).alloc (.cells #[.pointer none, .int .i32 0] 37)).alloc (.cells #[.int .u64 0, .int .u64 lo, .int .i32 x, .bool false, .pointer none] 27)) w1 :=
    ((Below.refl _ _).alloc (by simp) _).trans bel1
  have hx := first3 bel1' (by omega)
  have x2 : w1.cell? ⟨w.heap.size, 2, none⟩ = some (.int .i32 x) := by rw [cell_of hx]; rfl
  have x3 : w1.cell? ⟨w.heap.size, 3, none⟩ = some (.bool false) := by rw [cell_of hx]; rfl
  clear hx
  go_wp2_with fail
  have hb2 := hb1
  have bel2 := bel1'
  clear hb1 bel1 bel1'
  refine (w23 (w.heap.size + 1 + 1 + 1) _ x false lo w1 hb2).mono ?_
  rintro e w3 ⟨p, rfl, h1, h3⟩
  have s2 := bel2.size
  simp at s2
  have h4 : Below (w.heap.size + 1 + 1 + 1) (((w.alloc (.cells #[.int .u64 0, .int .u64 lo, .int .i32 x, .bool false, .pointer none] 27)).alloc (.cells #[.pointer none, .int .i32 0] 37)).alloc (.cells #[.int .u64 0, .int .u64 lo, .int .i32 x, .bool false, .pointer none] 27)) w3 := bel2.trans (h3.mono (by omega))
  have hn := second h4 (by omega)
  have hz : w.heap.size + 1 < w3.heap.size := lt_of hn
  have c0 : w3.cell? ⟨w.heap.size + 1, 0, none⟩ = some (.pointer none) := by rw [cell_of hn]; rfl
  have c1 : w3.cell? ⟨w.heap.size + 1, 1, none⟩ = some (.int .i32 0) := by rw [cell_of hn]; rfl
  have f0 := free_of hn 0
  have f1 := free_of hn 1
  have HB : Hid (Below w.heap.size w w3) := ((((Below.refl _ _).alloc (Nat.le_refl _) _).alloc (by simp) _).alloc (by simp; omega) _).trans (h4.mono (by omega))
  have H2 := hid (((h1.setCell (w.heap.size + 1) 0 (.pointer (some ⟨p, 0, none⟩)) (by omega)).setCell (w.heap.size + 1) 1 (.int .i32 x) (by omega)).mono (D := w.heap.size) (by omega))
  clear h1 h3 h4 hn H16 hb2 bel2
  go_wp2_with fail
  exact bodyPost_ret (v := .agg #[.pointer (some ⟨p, 0, none⟩), .int .i32 x]) (by simp [results, Try.results9, go_sem, c0, c1]) rfl
    ⟨p, rfl, H2.out, (HB.out.setCell (p := ⟨w.heap.size + 1, 0, none⟩) (Nat.le_succ _) _).setCell (p := ⟨w.heap.size + 1, 1, none⟩) (Nat.le_succ _) _⟩

set_option maxHeartbeats 400000 in
theorem w9d (lo x : Int) (w : World) (h0 : 9223372036854775807 < lo) : Calls Try.prog 9 #[.agg #[.int .u64 0, .int .u64 lo, .int .i32 x, .bool true, .pointer none]] w (GivesDec true lo x w) := by
  have H16 := hid (fun w => w16 0 lo x true w)
  have hlo : (lo == 0) = false := by simp; omega
  have hd : decide (lo ≤ 9223372036854775807) = false := by simp; omega
  go_enter Try.func9, Try.ntmps9
  go_wp2_with fail
  refine (H16.out _).mono ?_
  rintro e w1 ⟨rfl, rfl⟩
  go_wp2_with fail
  refine (w21 (w.heap.size + 1 + 1 + 1) lo _ hlo (by omega) (by simpa using heap_alloc_new (((w.alloc (.cells #[.int .u64 0, .int .u64 lo, .int .i32 x, .bool true, .pointer none] 27)).alloc (.cells #[.pointer none, .int .i32 0] 37)).alloc (.cells #[.int .u64 0, .int .u64 lo, .int .i32 x, .bool true, .pointer none] 27)) (.cells #[.bool false, .slice none 0 0] 51))).mono ?_
  rintro e w1 ⟨rfl, hb1, bel1⟩
  have bel1' : Below (w.heap.size + 1 + 1 + 1) (((w.alloc (.cells #[.int .u64 0, .int .u64 lo, .int .i32 x, .bool true, .pointer none] 27)).alloc (.cells #[.pointer none, .int .i32 0] 37)).alloc (.cells #[.int .u64 0, .int .u64 lo, .int .i32 x, .bool true, .pointer none] 27)) w1 :=
    ((Below.refl _ _).alloc (by simp) _).trans bel1
  have hx := first3 bel1' (by omega)
  have x2 : w1.cell? ⟨w.heap.size, 2, none⟩ = some (.int .i32 x) := by rw [cell_of hx]; rfl
  have x3 : w1.cell? ⟨w.heap.size, 3, none⟩ = some (.bool true) := by rw [cell_of hx]; rfl
  clear hx
  go_wp2_with fail
  refine (w22 (w.heap.size + 1 + 1 + 1) lo w1 (by omega) hb1).mono ?_
  rintro e w2 ⟨rfl, hw2⟩
  have hb2 : Big w2 (w.heap.size + 1 + 1 + 1) (w.heap.size + 1 + 1 + 1) true lo := by rw [hw2]; exact hb1.turn true
  have bel2 : Below (w.heap.size + 1 + 1 + 1) (((w.alloc (.cells #[.int .u64 0, .int .u64 lo, .int .i32 x, .bool true, .pointer none] 27)).alloc (.cells #[.pointer none, .int .i32 0] 37)).alloc (.cells #[.int .u64 0, .int .u64 lo, .int .i32 x, .bool true, .pointer none] 27)) w2 := by
    rw [hw2]; exact bel1'.setCell (p := ⟨w.heap.size + 1 + 1 + 1, 0, none⟩) (Nat.le_refl _) _
  clear hb1 bel1 bel1' hw2
  have hx := first3 bel2 (by omega)
  have x2 : w2.cell? ⟨w.heap.size, 2, none⟩ = some (.int .i32 x) := by rw [cell_of hx]; rfl
  clear hx
  go_wp2_with fail
  refine (w23 (w.heap.size + 1 + 1 + 1) _ x true lo w2 hb2).mono ?_
  rintro e w3 ⟨p, rfl, h1, h3⟩
  have s2 := bel2.size
  simp at s2
  have h4 : Below (w.heap.size + 1 + 1 + 1) (((w.alloc (.cells #[.int .u64 0, .int .u64 lo, .int .i32 x, .bool true, .pointer none] 27)).alloc (.cells #[.pointer none, .int .i32 0] 37)).alloc (.cells #[.int .u64 0, .int .u64 lo, .int .i32 x, .bool true, .pointer none] 27)) w3 := bel2.trans (h3.mono (by omega))
  have hn := second h4 (by omega)
  have hz : w.heap.size + 1 < w3.heap.size := lt_of hn
  have c0 : w3.cell? ⟨w.heap.size + 1, 0, none⟩ = some (.pointer none) := by rw [cell_of hn]; rfl
  have c1 : w3.cell? ⟨w.heap.size + 1, 1, none⟩ = some (.int .i32 0) := by rw [cell_of hn]; rfl
  have f0 := free_of hn 0
  have f1 := free_of hn 1
  have HB : Hid (Below w.heap.size w w3) := ((((Below.refl _ _).alloc (Nat.le_refl _) _).alloc (by simp) _).alloc (by simp; omega) _).trans (h4.mono (by omega))
  have H2 := hid (((h1.setCell (w.heap.size + 1) 0 (.pointer (some ⟨p, 0, none⟩)) (by omega)).setCell (w.heap.size + 1) 1 (.int .i32 x) (by omega)).mono (D := w.heap.size) (by omega))
  clear h1 h3 h4 hn H16 hb2 bel2
  go_wp2_with fail
  exact bodyPost_ret (v := .agg #[.pointer (some ⟨p, 0, none⟩), .int .i32 x]) (by simp [results, Try.results9, go_sem, c0, c1]) rfl
    ⟨p, rfl, H2.out, (HB.out.setCell (p := ⟨w.heap.size + 1, 0, none⟩) (Nat.le_succ _) _).setCell (p := ⟨w.heap.size + 1, 1, none⟩) (Nat.le_succ _) _⟩

/-- Decimal of a Wide that has not spilled and holds one 64-bit half. -/
theorem w9 (lo x : Int) (sg : Bool) (w : World) (h0 : 0 ≤ lo) (hs : sg = true → lo ≠ 0) : Calls Try.prog 9 #[.agg #[.int .u64 0, .int .u64 lo, .int .i32 x, .bool sg, .pointer none]] w (GivesDec sg lo x w) := by
  by_cases h1 : lo ≤ 9223372036854775807
  · cases sg
    · exact w9b lo x w h0 h1
    · exact w9a lo x w (by have := hs rfl; omega) h1
  · cases sg
    · exact w9c lo x w (by omega)
    · exact w9d lo x w (by omega)

end Go.Proofs.Qxb6615523a
