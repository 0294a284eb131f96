import Derived.Test.Qxb6614661aRXo
namespace Go.Proofs.Qxb6614661aR
open Go.RowKit
attribute [local go_sem ↓] Go.wp_at_zero Go.wp_at_succ

/-- S' says what S says, in lists of the same lengths. -/
structure Same (S S' : Sp) : Prop where
  p : S'.p.n = S.p.n
  P : S'.P = S.P
  r : S'.r.n = S.r.n
  rv : ∀ i, i < S.r.n → (S'.rv i).n = (S.rv i).n
  R : S'.R = S.R
  u : S'.u.n = S.u.n
  uv : ∀ i, i < S.u.n → (S'.uv i).n = (S.uv i).n
  U : S'.U = S.U
  g : S'.g.n = S.g.n
  gv : ∀ i, i < S.g.n → (S'.gv i).n = (S.gv i).n
  G : S'.G = S.G
  x : S'.x.n = S.x.n
  xv : ∀ i, i < S.x.n → (S'.xv i).n = (S.xv i).n
  X : S'.X = S.X
  y : S'.y.n = S.y.n
  yv : ∀ i, i < S.y.n → (S'.yv i).n = (S.yv i).n
  Y : S'.Y = S.Y

def Post13 (S : Sp) (w : World) (e : Ending) (w' : World) : Prop := ∃ S' : Sp, e = .returned S'.val ∧ S'.lies w' ∧ Same S S' ∧ Below w.heap.size w w'

def nil6 : Array Value := #[.slice none 0 0, .slice none 0 0, .slice none 0 0, .slice none 0 0, .slice none 0 0, .slice none 0 0]
/-- where zzToSpec stands: what was there stays; its box, its result and its variable 'out' lie in the three blocks behind. -/
structure St13 (w : World) (src out : Array Value) (wi : World) : Prop where
  below : Below w.heap.size w wi
  box : Blk wi w.heap.size 28 src
  res : Blk wi (w.heap.size + 1) 37 nil6
  out : Blk wi (w.heap.size + 1 + 1) 37 out
theorem St13.next {w wi wj : World} {src out : Array Value} (h : St13 w src out wi) (hb : Below wi.heap.size wi wj) : St13 w src out wj :=
  ⟨h.below.trans (hb.mono h.below.size), h.box.next hb, h.res.next hb, h.out.next hb⟩
theorem St13.set {w wi : World} {src out : Array Value} (h : St13 w src out wi) (j : Nat) (v : Value) : St13 w src (out.setIfInBounds j v) (wi.setCell ⟨w.heap.size + 1 + 1, j, none⟩ v) :=
  ⟨h.below.setCell (p := ⟨w.heap.size + 1 + 1, j, none⟩) (by show w.heap.size ≤ w.heap.size + 1 + 1; omega) v, h.box.far _ _ (by show _ ≠ w.heap.size + 1 + 1; omega), h.res.far _ _ (by show _ ≠ w.heap.size + 1 + 1; omega), h.out.set j v⟩
theorem St13.wrote {w wi wj : World} {src out : Array Value} {g q : Nat} {vs : List Value} (h : St13 w src out wi) (k : Wrote wi wj g q vs) (hb : ∀ B, B ≤ g → Below B wi wj) (hg : w.heap.size + 1 + 1 < g) : St13 w src out wj :=
  ⟨h.below.trans (hb _ (by omega)), h.box.wrote k (by omega), h.res.wrote k (by omega), h.out.wrote k (by omega)⟩
theorem St13.size {w wi : World} {src out : Array Value} (h : St13 w src out wi) : w.heap.size + 1 + 1 + 1 ≤ wi.heap.size := h.out.lt

theorem info82 : (Try.prog.info? 82).map (fun i => (i.zero, i.size, i.bytes)) = some (some (.agg #[.string ByteArray.empty, .int .i64 0, .slice none 0 0]), 3, 48) := by kernel_rfl
theorem info84 : (Try.prog.info? 84).map (fun i => (i.zero, i.size, i.bytes)) = some (some (.agg #[.string ByteArray.empty, .int .i64 0, .slice none 0 0]), 3, 48) := by kernel_rfl
theorem info86 : (Try.prog.info? 86).map (fun i => (i.zero, i.size, i.bytes)) = some (some (.agg #[.int .i64 0, .string ByteArray.empty, .int .i64 0, .slice none 0 0, .string ByteArray.empty, .int .i64 0]), 6, 80) := by kernel_rfl
theorem make32 (n : Nat) (h : n ≤ 1048576) (w : World) : (Instr.makeSlice 32 (.int .i64 (n : Int)) (.int .i64 (n : Int))).run Try.prog w =
    .ok (.slice (some ⟨w.heap.size, 0, none⟩) n n) (w.alloc (.cells (madeCells #[.string ByteArray.empty, .int .i64 0, .slice none 0 0] (n * 3)) 82)) := by
  obtain ⟨i0, hi, hz0, hz1, hz2⟩ := info_parts info82
  have := run_make w (P := Try.prog) 32 82 i0 _ Try.underlying32 hi hz0 .i64 .i64 n n (by omega) (by omega) (by rw [hz2]; omega) (by omega)
  rw [this, hz1]
  simp [Value.cells]
theorem make33 (n : Nat) (h : n ≤ 1048576) (w : World) : (Instr.makeSlice 33 (.int .i64 (n : Int)) (.int .i64 (n : Int))).run Try.prog w =
    .ok (.slice (some ⟨w.heap.size, 0, none⟩) n n) (w.alloc (.cells (madeCells #[.string ByteArray.empty, .int .i64 0, .slice none 0 0] (n * 3)) 84)) := by
  obtain ⟨i0, hi, hz0, hz1, hz2⟩ := info_parts info84
  have := run_make w (P := Try.prog) 33 84 i0 _ Try.underlying33 hi hz0 .i64 .i64 n n (by omega) (by omega) (by rw [hz2]; omega) (by omega)
  rw [this, hz1]
  simp [Value.cells]
theorem make34 (n : Nat) (h : n ≤ 1048576) (w : World) : (Instr.makeSlice 34 (.int .i64 (n : Int)) (.int .i64 (n : Int))).run Try.prog w =
    .ok (.slice (some ⟨w.heap.size, 0, none⟩) n n) (w.alloc (.cells (madeCells #[.int .i64 0, .string ByteArray.empty, .int .i64 0, .slice none 0 0, .string ByteArray.empty, .int .i64 0] (n * 6)) 86)) := by
  obtain ⟨i0, hi, hz0, hz1, hz2⟩ := info_parts info86
  have := run_make w (P := Try.prog) 34 86 i0 _ Try.underlying34 hi hz0 .i64 .i64 n n (by omega) (by omega) (by rw [hz2]; omega) (by omega)
  rw [this, hz1]
  simp [Value.cells]

end Go.Proofs.Qxb6614661aR
