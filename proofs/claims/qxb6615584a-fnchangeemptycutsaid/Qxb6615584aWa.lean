import Derived.Test.Qxb6615584aRows
import Derived.WalkKit
import Derived.WalkSpells
import Derived.WalkLawsBesides
import Derived.WideLaws
import Derived.Deep.RegionWith
import Derived.Deep.QuietTactic
import Derived.BigQuiet
namespace Go.Proofs.Qxb6615584a
open Go.RowKit

theorem hid {p : Prop} (h : p) : Hid p := h

/-- what a walk is told of a []string that came in: it is empty, or leads to strings. -/
def StrRow (w : World) (a : Option Addr) (n : Nat) : Prop :=
  n = 0 ∨ ∃ (b o : Nat) (ss : Nat → ByteArray), a = some ⟨b, o, none⟩ ∧ ∀ i, i < n → w.cell? ⟨b, o + i, none⟩ = some (.string (ss i)) ∧ (ss i).size ≤ maxLen

/-- what a walk is told of a map that came in: how many entries it has. -/
def MapLen (w : World) (r : Option Nat) (n : Nat) : Prop :=
  (r = none ∧ n = 0) ∨ ∃ b es clock, r = some b ∧ w.heap[b]? = some (.map es clock) ∧ es.size = n

theorem MapLen.below {w w' : World} {r : Option Nat} {n B : Nat} (h : MapLen w r n) (hb : Below B w w') (hB : w.heap.size ≤ B) : MapLen w' r n := by
  rcases h with h | ⟨b, es, clock, rfl, hh, hn⟩
  · exact Or.inl h
  · exact Or.inr ⟨b, es, clock, rfl, by rw [hb.block b (Nat.lt_of_lt_of_le (Array.getElem?_eq_some_iff.1 hh).1 hB)]; exact hh, hn⟩

theorem MapLen.run23 {w : World} {r : Option Nat} {n : Nat} (h : MapLen w r n) : (Builtin.len_ #[23] 3 #[.map r]).run Try.prog w = .ok (goInt n) w := by
  rcases h with ⟨rfl, rfl⟩ | ⟨b, es, clock, rfl, hh, rfl⟩
  · exact run_len_nilMap (w := w) 23 3 (by kernel_rfl)
  · exact run_len_map (w := w) 23 3 b es clock (by kernel_rfl) hh

theorem MapLen.run24 {w : World} {r : Option Nat} {n : Nat} (h : MapLen w r n) : (Builtin.len_ #[24] 3 #[.map r]).run Try.prog w = .ok (goInt n) w := by
  rcases h with ⟨rfl, rfl⟩ | ⟨b, es, clock, rfl, hh, rfl⟩
  · exact run_len_nilMap (w := w) 24 3 (by kernel_rfl)
  · exact run_len_map (w := w) 24 3 b es clock (by kernel_rfl) hh

/-- what zzAddBytes answers: a number within its bounds. -/
def Post14 (w : World) (e : Ending) (w' : World) : Prop := ∃ T : Int, e = .returned (.int .i64 T) ∧ w = w' ∧ 0 ≤ T ∧ T ≤ 1048577

set_option maxRecDepth 100000 in
set_option maxHeartbeats 400000 in
theorem w14 (t : Int) (a : Option Addr) (n c : Nat) (w : World) (h0 : 0 ≤ t) (h1 : t ≤ 1048577) (hn : n ≤ 4096) (hr : StrRow w a n) :
    Calls Try.prog 14 #[.int .i64 t, .slice a n c] w (Post14 w) := by
  have HR := hid hr
  clear hr
  go_enter Try.func14, Try.ntmps14
  go_wp2
  go_loop [0, 5] (fun t i => ∃ (k : Nat) (T : Int), k ≤ n ∧ i = .int .i64 k ∧ t = .int .i64 T ∧ 0 ≤ T ∧ T ≤ 1048577) (fun _ i => n - (intOf i).toNat)
  case atStart => exact ⟨0, t, Nat.zero_le _, rfl, rfl, h0, h1⟩
  case round =>
    obtain ⟨k, T, hk, rfl, rfl, hT0, hT1⟩ := hrel
    by_cases hlt : k < n
    · rcases HR.out with h | ⟨b, o, ss, rfl, hc⟩
      · omega
      obtain ⟨hcell, hsz⟩ := hc k hlt
      obtain ⟨s, HS⟩ : ∃ s, Hid (ss k = s) := ⟨_, rfl⟩
      rw [HS.out] at hcell hsz
      unfold maxLen at hsz
      obtain ⟨z, HZ⟩ : ∃ z : Nat, Hid (s.size = z) := ⟨_, rfl⟩
      clear hc
      by_cases hbig : 1048576 - T < (s.size : Int)
      · go_wp2
        go_ret
        exact ⟨1048577, rfl, rfl, by omega, by omega⟩
      · go_wp2
        go_round
        case rel => exact ⟨k + 1, T + s.size, by omega, by go_num, by go_num, by omega, by omega⟩
        case measure => simp [intOf]; omega
    · go_wp2
      go_ret
      exact ⟨T, rfl, rfl, hT0, hT1⟩

end Go.Proofs.Qxb6615584a
