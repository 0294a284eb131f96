import Derived.Test.Qxb6614661aRXa
import Derived.Deep.RegionHeld3
import Derived.Deep.AppendLies
import Derived.Lib.SliceRun
namespace Go.Proofs.Qxb6614661aR
open Go.RowKit

/-- the answer is true; what was there stays. -/
def PostT (w : World) (e : Ending) (w' : World) : Prop := e = .returned (.bool true) ∧ Below w.heap.size w w'

def WC.bare (A : WC) : WC := ⟨A.t, fun _ => 0⟩

set_option maxRecDepth 100000 in
theorem w43 (t : ByteArray) (l : Int) (w : World) : Calls Try.prog 43 #[.agg #[.string t, .int .i64 l], .agg #[.string t, .int .i64 0]] w (PostT w) := by
  have HB : Hid (∀ o o2, Below w.heap.size w ((w.alloc o).alloc o2)) := fun o o2 => ((Below.refl _ _).alloc (Nat.le_refl _) o).alloc (by simp) o2
  go_enter Try.func43, Try.ntmps43
  go_wp2
  go_ret
  exact ⟨rfl, HB.out _ _⟩

set_option maxRecDepth 100000 in
set_option maxHeartbeats 1000000 in
theorem w41 (s s' : Sl) (A : WC) (w : World) (hs : Words w s A) (hs' : Words w s' A.bare) (hn : s'.n = s.n) (hz : s.n = 0 → s' = ⟨none, 0, 0⟩) (hm : s.n ≤ 1048576) :
    Calls Try.prog 41 #[.slice s.a s.n s.c, .slice s'.a s'.n s'.c] w (PostT w) := by
  obtain ⟨a, n, c⟩ := s
  obtain ⟨a', n', c'⟩ := s'
  dsimp only at hn hz hm ⊢
  subst hn
  by_cases h0 : n' = 0
  · obtain ⟨rfl, rfl, rfl⟩ := Sl.mk.inj (hz h0)
    clear hs hs' hz
    have hnil : ∀ w : World, (binOp .eql 31 (.slice none 0 0) (.slice none 0 0)).run Try.prog w = .ok (.bool true) w := fun w => Lib.run_eql_slice_nil w 31 _ none 0 0 0 0 Try.underlying31
    go_enter Try.func41, Try.ntmps41
    go_wp2
    go_ret
    exact ⟨rfl, Below.refl _ _⟩
  rcases hs with h | ⟨b, o, ha, hc⟩
  · exact absurd h h0
  rcases hs' with h | ⟨b', o', ha', hc'⟩
  · exact absurd h h0
  dsimp only at ha ha' hc hc'
  subst ha ha'
  have HC := hid hc
  have HC' := hid hc'
  have hne : ((n' : Int) == 0) = false := by simpa using h0
  clear hc hc' hz
  go_enter Try.func41, Try.ntmps41
  go_wp2
  go_loopw [5] (fun i wr => ∃ k : Nat, k ≤ n' ∧ i = .int .i64 k ∧ Hid (Below w.heap.size w wr)) (fun i _ => n' - (intOf i).toNat)
  case atStart => exact ⟨0, Nat.zero_le _, rfl, Below.refl _ _⟩
  case round =>
    obtain ⟨k, hk, rfl, HB⟩ := hrel
    by_cases hlt : k < n'
    · obtain ⟨f1, f2⟩ := HC.out k hlt
      obtain ⟨g1, g2⟩ := HC'.out k hlt
      have lb := World.block_lt_of_cell? w _ f1
      have lb' := World.block_lt_of_cell? w _ g1
      dsimp only at lb lb'
      have hsz := HB.out.size
      have f1' : wr.cell? ⟨b, o + k * 2, none⟩ = some (.string (A.t k)) := by rw [HB.out.cell (p := ⟨b, o + k * 2, none⟩) lb]; exact f1
      have f2' : wr.cell? ⟨b, o + k * 2 + 1, none⟩ = some (.int .i64 (A.l k)) := by rw [HB.out.cell (p := ⟨b, o + k * 2 + 1, none⟩) lb]; exact f2
      have g1' : wr.cell? ⟨b', o' + k * 2, none⟩ = some (.string (A.t k)) := by rw [HB.out.cell (p := ⟨b', o' + k * 2, none⟩) lb']; exact g1
      have g2' : wr.cell? ⟨b', o' + k * 2 + 1, none⟩ = some (.int .i64 0) := by rw [HB.out.cell (p := ⟨b', o' + k * 2 + 1, none⟩) lb']; exact g2
      have i0 : (0 : Int) ≤ (k : Int) := by omega
      have i1 : (k : Int) < (n' : Int) := by omega
      clear f1 f2 g1 g2
      go_wp2_with fail
      go_region_held3 (fun w' => w'.cell? ⟨b, o + k * 2, none⟩ = some (.string (A.t k)) ∧ w'.cell? ⟨b, o + k * 2 + 1, none⟩ = some (.int .i64 (A.l k)) ∧ w'.cell? ⟨b', o' + k * 2, none⟩ = some (.string (A.t k)) ∧ w'.cell? ⟨b', o' + k * 2 + 1, none⟩ = some (.int .i64 0))
        (first
          | go_keep
          | (go_split_ands
             refine ⟨?_, ?_, ?_, ?_⟩
             · (rw [hb2.cell (by show b < wr.heap.size; omega)]; assumption)
             · (rw [hb2.cell (by show b < wr.heap.size; omega)]; assumption)
             · (rw [hb2.cell (by show b' < wr.heap.size; omega)]; assumption)
             · (rw [hb2.cell (by show b' < wr.heap.size; omega)]; assumption)))
        ((go_at_call 43; refine (w43 _ _ _).mono ?_; rintro e w2 ⟨rfl, hb2⟩))
      have HB2 : Hid (Below w.heap.size w w2) := HB.out.drew.trans (hb2.mono hsz)
      clear hb2
      go_wp2
      go_roundw
      case rel => exact ⟨k + 1, by omega, by go_num, HB2⟩
      case measure => simp [intOf]; omega
    · go_wp2
      go_ret
      exact ⟨rfl, HB.out⟩

end Go.Proofs.Qxb6614661aR
