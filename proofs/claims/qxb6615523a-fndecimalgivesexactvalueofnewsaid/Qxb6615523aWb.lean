import Derived.Test.Qxb6615523aWa
import Derived.LaidEqlPtr
namespace Go.Proofs.Qxb6615523a
open Go.RowKit

theorem info51 : (Try.prog.info? 51).map (fun i => i.size) = some 2 := by kernel_rfl

theorem neq_same (a : Addr) (w : World) : (binOp .neq 35 (.pointer (some a)) (.pointer (some a))).run Try.prog w = .ok (.bool false) w := by
  have h := info51
  cases hq : Try.prog.info? 51 with
  | none => rw [hq] at h; simp at h
  | some j =>
    have he : ∀ d : Nat, (Op.equalIn (d + 1) 35 (.pointer (some a)) (.pointer (some a))).run Try.prog w = .ok true w := fun d => by
      simp [Op.equalIn, run_underlying Try.underlying35, sizeOf, typeInfo, hq, run_sameAddr_same]
    simp only [binOp]
    simp [Op.equal, Op.maxDepth, he 9999]

theorem neq_other {a b : Addr} {ca cb : Array Value} {ta tb : TypeId} (w : World) (hne : a ≠ b) (ha : w.heap[a.block]? = some (.cells ca ta (0, 0))) (hb : w.heap[b.block]? = some (.cells cb tb (0, 0))) :
    (binOp .neq 35 (.pointer (some a)) (.pointer (some b))).run Try.prog w = .ok (.bool true) w := by
  have h := info51
  cases hq : Try.prog.info? 51 with
  | none => rw [hq] at h; simp at h
  | some j =>
    rw [hq] at h
    simp at h
    have he : ∀ d : Nat, (Op.equalIn (d + 1) 35 (.pointer (some a)) (.pointer (some b))).run Try.prog w = .ok false w := fun d => by
      simp [Op.equalIn, run_underlying Try.underlying35, sizeOf, typeInfo, hq, h, run_sameAddr_other w hne ha hb]
    simp only [binOp]
    simp [Op.equal, Op.maxDepth, he 9999]

/-- block p of w is a big.Int of the sign sg and the magnitude m (one word, none where m is 0); it and its word lie from block B on. -/
def Big (w : World) (B p : Nat) (sg : Bool) (m : Int) : Prop :=
  B ≤ p ∧ ∃ (a : Option Addr) (n c : Nat), w.heap[p]? = some (.cells #[.bool sg, .slice a n c] 51 (0, 0)) ∧
    ((m = 0 ∧ n = 0) ∨ (m ≠ 0 ∧ n = 1 ∧ ∃ g o, a = some ⟨g, o, none⟩ ∧ g ≠ p ∧ B ≤ g ∧ g < w.heap.size ∧ w.cell? ⟨g, o, none⟩ = some (.int .u64 m)))

theorem cell_of {w : World} {p : Nat} {c : Array Value} {e : TypeId} {fr : Nat × Nat} (h : w.heap[p]? = some (.cells c e fr)) (j : Nat) : w.cell? ⟨p, j, none⟩ = c[j]? := by
  unfold World.cell?
  rw [h]
  simp

theorem free_of {w : World} {p : Nat} {c : Array Value} {e : TypeId} (h : w.heap[p]? = some (.cells c e (0, 0))) (j : Nat) : w.frozen? ⟨p, j, none⟩ = false := by
  unfold World.frozen?
  rw [h]
  simp

theorem lt_of {w : World} {p : Nat} {o : Obj} (h : w.heap[p]? = some o) : p < w.heap.size := (Array.getElem?_eq_some_iff.1 h).1

set_option maxHeartbeats 400000 in
theorem w25b (q p g o c : Nat) (sq sp : Bool) (m : Int) (w : World) (hne : ¬ q = p) (hg : g < w.heap.size)
    (hq : w.heap[q]? = some (.cells #[.bool sq, .slice none 0 0] 51 (0, 0))) (hp : w.heap[p]? = some (.cells #[.bool sp, .slice (some ⟨g, o, none⟩) 1 c] 51 (0, 0)))
    (hc : w.cell? ⟨g, o, none⟩ = some (.int .u64 m)) :
    Calls Try.prog 25 #[.pointer (some ⟨q, 0, none⟩), .pointer (some ⟨p, 0, none⟩)] w fun e w' => e = .returned (.pointer (some ⟨q, 0, none⟩)) ∧
      w' = (((w.setCell ⟨q, 1, none⟩ (.slice (some ⟨w.heap.size, 0, none⟩) 1 1)).setCell ⟨q, 0, none⟩ (.bool sp)).alloc (.cells #[.int .u64 m] 56)).drew := by
  have H35 := w35b g o c m w.drew hg hc
  have hneq := neq_other (a := ⟨q, 0, none⟩) (b := ⟨p, 0, none⟩) w (by intro e; injection e with e1; exact hne e1) hq hp
  have q0 : w.cell? ⟨q, 0, none⟩ = some (.bool sq) := by rw [cell_of hq]; rfl
  have q1 : w.cell? ⟨q, 1, none⟩ = some (.slice none 0 0) := by rw [cell_of hq]; rfl
  have p0 : w.cell? ⟨p, 0, none⟩ = some (.bool sp) := by rw [cell_of hp]; rfl
  have p1 : w.cell? ⟨p, 1, none⟩ = some (.slice (some ⟨g, o, none⟩) 1 c) := by rw [cell_of hp]; rfl
  have f0 := free_of hq 0
  have f1 := free_of hq 1
  have lq := lt_of hq
  have lp := lt_of hp
  have nq : ¬ q = w.heap.size := by omega
  have np : ¬ p = w.heap.size := by omega
  clear hq hp
  go_enter Try.func25, Try.ntmps25
  go_wp2_with fail
  go_region_with (go_at_call 35; refine H35.mono ?_; rintro e w2 ⟨rfl, rfl⟩)
  all_goals go_wp2
  all_goals go_ret
  all_goals exact ⟨rfl, rfl⟩

set_option maxHeartbeats 400000 in
theorem w25a (q p c : Nat) (a : Option Addr) (sq sp : Bool) (w : World) (hne : ¬ q = p)
    (hq : w.heap[q]? = some (.cells #[.bool sq, .slice none 0 0] 51 (0, 0))) (hp : w.heap[p]? = some (.cells #[.bool sp, .slice a 0 c] 51 (0, 0))) :
    Calls Try.prog 25 #[.pointer (some ⟨q, 0, none⟩), .pointer (some ⟨p, 0, none⟩)] w fun e w' => e = .returned (.pointer (some ⟨q, 0, none⟩)) ∧
      w' = ((w.setCell ⟨q, 1, none⟩ (.slice none 0 0)).setCell ⟨q, 0, none⟩ (.bool sp)).drew := by
  have H35 := (w35a a c w.drew).mono (fun e w' h => (⟨h.1, h.2.symm⟩ : e = _ ∧ w.drew = w'))
  have hneq := neq_other (a := ⟨q, 0, none⟩) (b := ⟨p, 0, none⟩) w (by intro e; injection e with e1; exact hne e1) hq hp
  have q0 : w.cell? ⟨q, 0, none⟩ = some (.bool sq) := by rw [cell_of hq]; rfl
  have q1 : w.cell? ⟨q, 1, none⟩ = some (.slice none 0 0) := by rw [cell_of hq]; rfl
  have p0 : w.cell? ⟨p, 0, none⟩ = some (.bool sp) := by rw [cell_of hp]; rfl
  have p1 : w.cell? ⟨p, 1, none⟩ = some (.slice a 0 c) := by rw [cell_of hp]; rfl
  have f0 := free_of hq 0
  have f1 := free_of hq 1
  clear hq hp
  go_enter Try.func25, Try.ntmps25
  go_wp2_with fail
  go_region_with (go_at_call 35; refine H35.mono ?_; rintro e w2 ⟨rfl, rfl⟩)
  all_goals go_wp2
  all_goals go_ret
  all_goals exact ⟨rfl, rfl⟩

theorem below2 (w : World) (q : Nat) (u v : Value) : Below q w ((w.setCell ⟨q, 1, none⟩ u).setCell ⟨q, 0, none⟩ v) :=
  Below.setCell (p := ⟨q, 0, none⟩) (Below.setCell (p := ⟨q, 1, none⟩) (Below.refl q w) (Nat.le_refl q) u) (Nat.le_refl q) v

/-- Set of one big.Int by another: what it is good for. -/
theorem w25 (q p : Nat) (sp : Bool) (m : Int) (w : World) (hne : ¬ q = p) (hq : w.heap[q]? = some (.cells #[.bool false, .slice none 0 0] 51 (0, 0))) (B : Nat) (hp : Big w B p sp m) :
    Calls Try.prog 25 #[.pointer (some ⟨q, 0, none⟩), .pointer (some ⟨p, 0, none⟩)] w fun e w' => e = .returned (.pointer (some ⟨q, 0, none⟩)) ∧ Big w' q q sp m ∧ Below q w w' := by
  obtain ⟨_, a, n, c, hh, ⟨rfl, rfl⟩ | ⟨hm, rfl, g, o, rfl, hgp, _, hgl, hcell⟩⟩ := hp
  · refine (w25a q p c a false sp w hne hq hh).mono ?_
    rintro e w' ⟨rfl, rfl⟩
    refine ⟨rfl, ⟨Nat.le_refl _, none, 0, 0, ?_, Or.inl ⟨rfl, rfl⟩⟩, (below2 w q _ _).drew⟩
    have h1 := heap_setCell_same w q 1 _ 51 (.slice none 0 0) hq
    have h2 := heap_setCell_same _ q 0 _ 51 (.bool sp) h1
    exact h2
  · have lq := lt_of hq
    refine (w25b q p g o c false sp m w hne hgl hq hh hcell).mono ?_
    rintro e w' ⟨rfl, rfl⟩
    have h1 := heap_setCell_same w q 1 _ 51 (.slice (some ⟨w.heap.size, 0, none⟩) 1 1) hq
    have h2 := heap_setCell_same _ q 0 _ 51 (.bool sp) h1
    refine ⟨rfl, ⟨Nat.le_refl _, some ⟨w.heap.size, 0, none⟩, 1, 1, ?_, Or.inr ⟨hm, rfl, w.heap.size, 0, rfl, by omega, by omega, ?_, ?_⟩⟩, ?_⟩
    · show (World.alloc _ _).heap[q]? = _
      rw [Below.heap_alloc _ _ _ (by simpa [World.setCell] using lq)]
      exact h2
    · simp [World.setCell]
    · have := World.cell?_alloc_mark ((w.setCell ⟨q, 1, none⟩ (.slice (some ⟨w.heap.size, 0, none⟩) 1 1)).setCell ⟨q, 0, none⟩ (.bool sp)) #[.int .u64 m] 56 (0, 0) 0
      simpa [World.setCell] using this
    · exact ((below2 w q _ _).alloc (by simpa [World.setCell] using Nat.le_of_lt lq) _).drew

end Go.Proofs.Qxb6615523a
