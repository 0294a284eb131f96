import Derived.Test.Qxb6614661aRRows
import Derived.WalkKit
import Derived.WalkSpells
import Derived.WalkLawsBesides
import Derived.Below
namespace Go.Proofs.Qxb6614661aR
open Go.RowKit

theorem hid {p : Prop} (h : p) : Hid p := h

/-- a slice: where its row starts, its length, its capacity. -/
structure Sl where
  a : Option Addr
  n : Nat
  c : Nat

/-- what a list of words says: the i-th text, the i-th line. -/
structure WC where
  t : Nat → ByteArray
  l : Nat → Int
/-- what a list of roles (or users) says. -/
structure RC where
  t : Nat → ByteArray
  l : Nat → Int
  c : Nat → WC
/-- what a list of grants (or separations) says. -/
structure GC where
  l0 : Nat → Int
  t1 : Nat → ByteArray
  l1 : Nat → Int
  c : Nat → WC
  t2 : Nat → ByteArray
  l2 : Nat → Int

def Words (w : World) (s : Sl) (A : WC) : Prop :=
  s.n = 0 ∨ ∃ b o, s.a = some ⟨b, o, none⟩ ∧ ∀ i, i < s.n → w.cell? ⟨b, o + i * 2, none⟩ = some (.string (A.t i)) ∧ w.cell? ⟨b, o + i * 2 + 1, none⟩ = some (.int .i64 (A.l i))
def Roles (w : World) (s : Sl) (vs : Nat → Sl) (A : RC) : Prop :=
  s.n = 0 ∨ ∃ b o, s.a = some ⟨b, o, none⟩ ∧ ∀ i, i < s.n → w.cell? ⟨b, o + i * 3, none⟩ = some (.string (A.t i)) ∧ w.cell? ⟨b, o + i * 3 + 1, none⟩ = some (.int .i64 (A.l i)) ∧
    w.cell? ⟨b, o + i * 3 + 2, none⟩ = some (.slice (vs i).a (vs i).n (vs i).c) ∧ Words w (vs i) (A.c i)
def Grants (w : World) (s : Sl) (vs : Nat → Sl) (A : GC) : Prop :=
  s.n = 0 ∨ ∃ b o, s.a = some ⟨b, o, none⟩ ∧ ∀ i, i < s.n → w.cell? ⟨b, o + i * 6, none⟩ = some (.int .i64 (A.l0 i)) ∧ w.cell? ⟨b, o + i * 6 + 1, none⟩ = some (.string (A.t1 i)) ∧ w.cell? ⟨b, o + i * 6 + 2, none⟩ = some (.int .i64 (A.l1 i)) ∧
    w.cell? ⟨b, o + i * 6 + 3, none⟩ = some (.slice (vs i).a (vs i).n (vs i).c) ∧ w.cell? ⟨b, o + i * 6 + 4, none⟩ = some (.string (A.t2 i)) ∧ w.cell? ⟨b, o + i * 6 + 5, none⟩ = some (.int .i64 (A.l2 i)) ∧ Words w (vs i) (A.c i)

/-- a row stays where the block it lies in stays. -/
theorem Words.keep {w w' : World} {s : Sl} {A : WC} (h : Words w s A) (hk : ∀ b, b < w.heap.size → s.a.map Addr.block = some b → w'.heap[b]? = w.heap[b]?) : Words w' s A := by
  rcases h with h | ⟨b, o, ha, hc⟩
  · exact Or.inl h
  · by_cases hn : s.n = 0
    · exact Or.inl hn
    refine Or.inr ⟨b, o, ha, fun i hi => ?_⟩
    have hb : w'.heap[b]? = w.heap[b]? := hk b (World.block_lt_of_cell? w _ (hc 0 (by omega)).1) (by rw [ha]; rfl)
    obtain ⟨h1, h2⟩ := hc i hi
    exact ⟨by rw [World.cell?_of_block (w := w) hb]; exact h1, by rw [World.cell?_of_block (w := w) hb]; exact h2⟩

theorem Words.below {w w' : World} {s : Sl} {A : WC} {B : Nat} (h : Words w s A) (hb : Below B w w') (hB : w.heap.size ≤ B) : Words w' s A :=
  h.keep fun b hl _ => hb.block b (Nat.lt_of_lt_of_le hl hB)

theorem Roles.below {w w' : World} {s : Sl} {vs : Nat → Sl} {A : RC} {B : Nat} (h : Roles w s vs A) (hb : Below B w w') (hB : w.heap.size ≤ B) : Roles w' s vs A := by
  rcases h with h | ⟨b, o, ha, hc⟩
  · exact Or.inl h
  · refine Or.inr ⟨b, o, ha, fun i hi => ?_⟩
    obtain ⟨h1, h2, h3, h4⟩ := hc i hi
    have hbb : w'.heap[b]? = w.heap[b]? := hb.block b (Nat.lt_of_lt_of_le (World.block_lt_of_cell? w _ h1) hB)
    exact ⟨by rw [World.cell?_of_block (w := w) hbb]; exact h1, by rw [World.cell?_of_block (w := w) hbb]; exact h2, by rw [World.cell?_of_block (w := w) hbb]; exact h3, h4.below hb hB⟩

theorem Grants.below {w w' : World} {s : Sl} {vs : Nat → Sl} {A : GC} {B : Nat} (h : Grants w s vs A) (hb : Below B w w') (hB : w.heap.size ≤ B) : Grants w' s vs A := by
  rcases h with h | ⟨b, o, ha, hc⟩
  · exact Or.inl h
  · refine Or.inr ⟨b, o, ha, fun i hi => ?_⟩
    obtain ⟨h1, h2, h3, h4, h5, h6, h7⟩ := hc i hi
    have hbb : w'.heap[b]? = w.heap[b]? := hb.block b (Nat.lt_of_lt_of_le (World.block_lt_of_cell? w _ h1) hB)
    exact ⟨by rw [World.cell?_of_block (w := w) hbb]; exact h1, by rw [World.cell?_of_block (w := w) hbb]; exact h2, by rw [World.cell?_of_block (w := w) hbb]; exact h3, by rw [World.cell?_of_block (w := w) hbb]; exact h4,
      by rw [World.cell?_of_block (w := w) hbb]; exact h5, by rw [World.cell?_of_block (w := w) hbb]; exact h6, h7.below hb hB⟩

/-- a whole spec: its six lists, the lists within them, and what they say. -/
structure Sp where
  p : Sl
  P : WC
  r : Sl
  rv : Nat → Sl
  R : RC
  u : Sl
  uv : Nat → Sl
  U : RC
  g : Sl
  gv : Nat → Sl
  G : GC
  x : Sl
  xv : Nat → Sl
  X : GC
  y : Sl
  yv : Nat → Sl
  Y : GC

def Sp.val (S : Sp) : Value := .agg #[.slice S.p.a S.p.n S.p.c, .slice S.r.a S.r.n S.r.c, .slice S.u.a S.u.n S.u.c, .slice S.g.a S.g.n S.g.c, .slice S.x.a S.x.n S.x.c, .slice S.y.a S.y.n S.y.c]
def Sp.lies (S : Sp) (w : World) : Prop := Words w S.p S.P ∧ Roles w S.r S.rv S.R ∧ Roles w S.u S.uv S.U ∧ Grants w S.g S.gv S.G ∧ Grants w S.x S.xv S.X ∧ Grants w S.y S.yv S.Y
theorem Sp.lies.below {S : Sp} {w w' : World} {B : Nat} (h : S.lies w) (hb : Below B w w') (hB : w.heap.size ≤ B) : S.lies w' :=
  ⟨h.1.below hb hB, h.2.1.below hb hB, h.2.2.1.below hb hB, h.2.2.2.1.below hb hB, h.2.2.2.2.1.below hb hB, h.2.2.2.2.2.below hb hB⟩

/-- every list of it has at most 2^20 members. -/
def SmallN (n : Nat) (vs : Nat → Sl) : Prop := n ≤ 1048576 ∧ ∀ i, i < n → (vs i).n ≤ 1048576
def Sp.small (S : Sp) : Prop := S.p.n ≤ 1048576 ∧ SmallN S.r.n S.rv ∧ SmallN S.u.n S.uv ∧ SmallN S.g.n S.gv ∧ SmallN S.x.n S.xv ∧ SmallN S.y.n S.yv


end Go.Proofs.Qxb6614661aR
