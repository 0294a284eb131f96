import Derived.Test.Qxb6614661aRXi
import Derived.Deep.Onto
namespace Go.Proofs.Qxb6614661aR
open Go.RowKit

theorem ownsRow_below {w w' : World} {base B : Nat} {e : TypeId} {size : Nat} {v : Value} {n : Nat} {xs : List Value} (h : w.ownsRow base e size v n xs) (hb : Below B w w') (hB : w.heap.size ≤ B) : w'.ownsRow base e size v n xs := by
  refine ⟨h.1, ?_⟩
  rcases h.2 with hn | ⟨g, cap, cur, hv, hbs, hg, rest⟩
  · exact .inl hn
  · exact .inr ⟨g, cap, cur, hv, hbs, by rw [hb.block g (Nat.lt_of_lt_of_le (Array.getElem?_eq_some_iff.1 hg).1 hB)]; exact hg, rest⟩

/-- the slice value v owns a row of k words with the texts of A and no lines. -/
def OutW (w : World) (base : Nat) (v : Value) (k : Nat) (A : WC) : Prop :=
  (k = 0 → v = .slice none 0 0) ∧ ∃ xs, w.ownsRow base 79 2 v k xs ∧ ∀ j, j < k → xs[j * 2]? = some (.string (A.t j)) ∧ xs[j * 2 + 1]? = some (.int .i64 0)

theorem outW_words {w : World} {base : Nat} {v : Value} {k : Nat} {A : WC} (h : OutW w base v k A) : ∃ s' : Sl, v = .slice s'.a s'.n s'.c ∧ s'.n = k ∧ (k = 0 → s' = ⟨none, 0, 0⟩) ∧ Words w s' A.bare ∧ ∀ b, s'.a.map Addr.block = some b → base ≤ b := by
  obtain ⟨h0, xs, hown, hx⟩ := h
  by_cases hk : k = 0
  · refine ⟨⟨none, 0, 0⟩, h0 hk, hk.symm, fun _ => rfl, Or.inl rfl, fun b hb => by cases hb⟩
  · obtain ⟨g, cap, rfl, hb, hg⟩ := hown.form (by omega)
    refine ⟨⟨some ⟨g, 0, none⟩, k, cap⟩, rfl, rfl, fun h => absurd h hk, Or.inr ⟨g, 0, rfl, fun i hi => ?_⟩, fun b hb' => by cases hb'; exact hb⟩
    replace hi : i < k := hi
    obtain ⟨x1, x2⟩ := hx i hi
    rw [Nat.zero_add]
    exact ⟨by rw [hown.cellAt (i * 2) (by show i * 2 < k * 2; omega)]; exact x1, by rw [hown.cellAt (i * 2 + 1) (by show i * 2 + 1 < k * 2; omega)]; exact x2⟩

theorem outW_snoc {w : World} {base : Nat} {v : Value} {k : Nat} {A : WC} {xs : List Value} (hlen : xs.length = k * 2) (hx : ∀ j, j < k → xs[j * 2]? = some (.string (A.t j)) ∧ xs[j * 2 + 1]? = some (.int .i64 0))
    (hown : w.ownsRow base 79 2 v (k + 1) (xs ++ [.string (A.t k), .int .i64 0])) : OutW w base v (k + 1) A := by
  refine ⟨fun h => by omega, _, hown, fun j hj => ?_⟩
  by_cases hjk : j = k
  · subst hjk
    rw [List.getElem?_append_right (by omega), List.getElem?_append_right (by omega), hlen]
    simp
  · obtain ⟨x1, x2⟩ := hx j (by omega)
    rw [List.getElem?_append_left (by omega), List.getElem?_append_left (by omega)]
    exact ⟨x1, x2⟩

def PostWn (s : Sl) (A : WC) (w : World) (e : Ending) (w' : World) : Prop :=
  ∃ s' : Sl, e = .returned (.slice s'.a s'.n s'.c) ∧ (s'.n = s.n ∧ (s.n = 0 → s' = ⟨none, 0, 0⟩)) ∧ Words w' s' A.bare ∧ Below w.heap.size w w' ∧ ∀ b, s'.a.map Addr.block = some b → w.heap.size ≤ b

set_option maxRecDepth 100000 in
set_option maxHeartbeats 2000000 in
theorem w56 (s : Sl) (A : WC) (wb : Nat) (w : World) (hs : Words w s A) (hm : s.n ≤ 1048576) (hf : w.cell? ⟨wb, 0, none⟩ = some (.func (.func 55) #[] #[])) :
    Calls Try.prog 56 #[.slice s.a s.n s.c, .pointer (some ⟨wb, 0, none⟩)] w (PostWn s A w) := by
  obtain ⟨ti, hi0, hz0, hz1, hz2⟩ := info_parts info79
  have HI := hid hi0
  have HZ0 := hid hz0
  have HZ1 := hid hz1
  have HZ2 := hid hz2
  clear hi0 hz0 hz1 hz2
  have HS := hid hs
  have HF := hid hf
  clear hs hf
  obtain ⟨a, n, c⟩ := s
  dsimp only at hm ⊢
  go_enter Try.func56, Try.ntmps56
  go_wp2
  go_loopw [4, 9] (fun v i wr => ∃ k : Nat, k ≤ n ∧ i = .int .i64 k ∧ Hid (OutW wr w.heap.size v k A) ∧ Hid (Below w.heap.size w wr)) (fun _ i _ => n - (intOf i).toNat)
  case atStart => exact ⟨0, Nat.zero_le _, rfl, ⟨fun _ => rfl, [], World.ownsRow_nil _ _ _ _, fun j hj => by omega⟩, Below.refl _ _⟩
  case round =>
    obtain ⟨k, hk, rfl, OU, HB⟩ := hrel
    by_cases hlt : k < n
    · rcases HS.out with h | ⟨b, o, ha, hc⟩
      · exact absurd h (by dsimp only; omega)
      obtain ⟨f1, f2⟩ := hc k hlt
      dsimp only at ha
      subst ha
      have f1' : wr.cell? ⟨b, o + k * 2, none⟩ = some (.string (A.t k)) := cellKeep HB.out f1
      have f2' : wr.cell? ⟨b, o + k * 2 + 1, none⟩ = some (.int .i64 (A.l k)) := cellKeep HB.out f2
      have hf' : wr.cell? ⟨wb, 0, none⟩ = some (.func (.func 55) #[] #[]) := cellKeep HB.out HF.out
      have hfa : ∀ o, (wr.alloc o).cell? ⟨wb, 0, none⟩ = some (.func (.func 55) #[] #[]) := fun o => cellKeep ((Below.refl _ _).alloc (Nat.le_refl _) o) hf'
      have i0 : (0 : Int) ≤ (k : Int) := by omega
      have i1 : (k : Int) < (n : Int) := by omega
      clear hc f1 f2
      go_wp2_with fail
      refine (w55 _ _ _).mono ?_
      rintro e w2 ⟨rfl, hb2⟩
      obtain ⟨hv0, xs, hown, hx⟩ := OU.out
      have hsz : w.heap.size ≤ wr.heap.size := HB.out.size
      have hsz2 : wr.heap.size + 1 ≤ w2.heap.size := by have := hb2.size; simpa using this
      have HB2 : Hid (Below w.heap.size w w2) := (HB.out.alloc hsz _).trans (hb2.mono (by simp; omega))
      have own2 : w2.ownsRow w.heap.size 79 2 u4 k xs := ownsRow_below (hown.alloc _) hb2 (Nat.le_refl _)
      have hlen : xs.length = k * 2 := hown.1
      have HX := hid hx
      have HO := hid own2
      have HLO : Hid (∀ b, u4.ownBlock = some b → w.heap.size ≤ b) := fun b hb => (hown.lt b hb).1
      clear hb2 hown hx own2 OU HB hfa hf' f1' f2' hv0
      go_wp2_with (first | (at_builtin; refine wpList_append_lies _ rfl _ _ 31 rfl w.heap.size 79 ti _ 2 24 Try.underlying31 HI.out HZ0.out HZ1.out HZ2.out rfl (by decide) u4 k xs rfl (HO.out.alloc _) ⟨w2.heap.size, 0, none⟩ 1 1 [.string (A.t k), .int .i64 0] rfl rfl (World.news_of_block (cs := #[.string (A.t k), .int .i64 0]) (t := 79) (fr := (0, 0)) (heap_alloc_new w2 _)) (by simp [Value.oneCell']) (by omega) (by unfold maxLen; omega) (by omega) (by simp; omega) (w2.heap.size + 1) (by simp) ?_))
      intro g cap w3 hown3 hgrow hat hlt3
      have OU3 : Hid (OutW w3 w.heap.size (.slice (some ⟨g, 0, none⟩) (k + 1) cap) (k + 1) A) := outW_snoc hlen HX.out hown3
      have HB3 : Hid (Below w.heap.size w w3) := (HB2.out.alloc (by omega) _).grown hgrow (by simp; omega) HLO.out
      clear hown3 hgrow hat hlt3
      go_wp2
      go_roundw
      case rel => exact ⟨k + 1, by omega, by go_num, OU3, HB3⟩
      case measure => simp [intOf]; omega
    · obtain rfl : k = n := by omega
      obtain ⟨s', rfl, e1, e2, e3, e4⟩ := outW_words OU.out
      have E3 := hid e3
      clear OU e3
      go_wp2
      go_ret
      exact ⟨s', rfl, ⟨e1, e2⟩, E3.out, HB.out, e4⟩
end Go.Proofs.Qxb6614661aR
