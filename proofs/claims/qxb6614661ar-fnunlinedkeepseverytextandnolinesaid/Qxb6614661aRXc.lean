import Derived.Test.Qxb6614661aRXa
import Derived.Deep.QuietTactic
import Derived.BigQuiet
namespace Go.Proofs.Qxb6614661aR
open Go.RowKit

/-- what the size functions answer: a number within bounds; they only read. -/
def PostN (w : World) (e : Ending) (w' : World) : Prop := ∃ T : Int, e = .returned (.int .i64 T) ∧ w = w' ∧ 0 ≤ T ∧ T ≤ 2097152

set_option maxRecDepth 100000 in
theorem w35 (t n : Int) (w : World) (h0 : 0 ≤ t) (h1 : t ≤ 2097152) (h2 : 0 ≤ n) : Calls Try.prog 35 #[.int .i64 t, .int .i64 n] w (PostN w) := by
  by_cases c1 : 1048576 < t
  · go_enter Try.func35, Try.ntmps35
    go_wp2
    go_ret
    exact ⟨_, rfl, rfl, by omega, by omega⟩
  by_cases c2 : 1048576 < n
  · go_enter Try.func35, Try.ntmps35
    go_wp2
    go_ret
    exact ⟨_, rfl, rfl, by omega, by omega⟩
  go_enter Try.func35, Try.ntmps35
  go_wp2
  go_ret
  exact ⟨t + n, rfl, rfl, by omega, by omega⟩

set_option maxRecDepth 100000 in
set_option maxHeartbeats 1000000 in
theorem w34 (t : Int) (s : Sl) (A : WC) (w : World) (h0 : 0 ≤ t) (h1 : t ≤ 2097152) (hs : Words w s A) : Calls Try.prog 34 #[.int .i64 t, .slice s.a s.n s.c] w (PostN w) := by
  have HS := hid hs
  clear hs
  obtain ⟨a, n, c⟩ := s
  dsimp only
  by_cases c1 : (1048576 : Int) < n
  · go_enter Try.func34, Try.ntmps34
    go_wp2
    go_ret
    exact ⟨_, rfl, rfl, by omega, by omega⟩
  go_enter Try.func34, Try.ntmps34
  go_wp2_with fail
  refine (w35 t _ w h0 h1 (by omega)).mono ?_
  rintro e w1 ⟨T, rfl, rfl, hT0, hT1⟩
  go_wp2
  go_loop [0, 5] (fun z i => ∃ (k : Nat) (T : Int), k ≤ n ∧ i = .int .i64 k ∧ z = .int .i64 T ∧ 0 ≤ T ∧ T ≤ 2097152) (fun _ i => n - (intOf i).toNat)
  case atStart => exact ⟨0, T, Nat.zero_le _, rfl, rfl, hT0, hT1⟩
  case round =>
    obtain ⟨k, z, hk, rfl, rfl, hz0, hz1⟩ := hrel
    by_cases hlt : k < n
    · by_cases hz : z ≤ 1048576
      · rcases HS.out with h | ⟨b, of, ha, hc⟩
        · exact absurd h (by dsimp only; omega)
        obtain ⟨f1, _⟩ := hc k hlt
        dsimp only at ha
        subst ha
        obtain ⟨s, HSz⟩ : ∃ s, Hid (A.t k = s) := ⟨_, rfl⟩
        rw [HSz.out] at f1
        clear hc HSz
        go_wp2_with fail
        refine (w35 z _ w hz0 hz1 (by omega)).mono ?_
        rintro e w1 ⟨T2, rfl, rfl, hT20, hT21⟩
        go_wp2
        go_round
        case rel => exact ⟨k + 1, T2, by omega, by go_num, by go_num, by omega, by omega⟩
        case measure => simp [intOf]; omega
      · go_wp2
        go_ret
        exact ⟨z, rfl, rfl, hz0, hz1⟩
    · go_wp2
      go_ret
      exact ⟨z, rfl, rfl, hz0, hz1⟩

set_option maxRecDepth 100000 in
set_option maxHeartbeats 1000000 in
theorem w36 (t : Int) (s : Sl) (vs : Nat → Sl) (A : GC) (w : World) (h0 : 0 ≤ t) (h1 : t ≤ 2097152) (hs : Grants w s vs A) : Calls Try.prog 36 #[.int .i64 t, .slice s.a s.n s.c] w (PostN w) := by
  have HS := hid hs
  clear hs
  obtain ⟨a, n, c⟩ := s
  dsimp only
  by_cases c1 : (1048576 : Int) < n
  · go_enter Try.func36, Try.ntmps36
    go_wp2
    go_ret
    exact ⟨_, rfl, rfl, by omega, by omega⟩
  go_enter Try.func36, Try.ntmps36
  go_wp2_with fail
  refine (w35 t _ w h0 h1 (by omega)).mono ?_
  rintro e w1 ⟨T, rfl, rfl, hT0, hT1⟩
  go_wp2
  go_loop [0, 5] (fun z i => ∃ (k : Nat) (T : Int), k ≤ n ∧ i = .int .i64 k ∧ z = .int .i64 T ∧ 0 ≤ T ∧ T ≤ 2097152) (fun _ i => n - (intOf i).toNat)
  case atStart => exact ⟨0, T, Nat.zero_le _, rfl, rfl, hT0, hT1⟩
  case round =>
    obtain ⟨k, z, hk, rfl, rfl, hz0, hz1⟩ := hrel
    by_cases hlt : k < n
    · by_cases hz : z ≤ 1048576
      · rcases HS.out with h | ⟨b, of, ha, hc⟩
        · exact absurd h (by dsimp only; omega)
        obtain ⟨_, f1, _, f3, f4, _, fw⟩ := hc k hlt
        dsimp only at ha
        subst ha
        obtain ⟨s, HSz⟩ : ∃ s, Hid (A.t1 k = s) := ⟨_, rfl⟩
        rw [HSz.out] at f1
        obtain ⟨s2, HSz2⟩ : ∃ s, Hid (A.t2 k = s) := ⟨_, rfl⟩
        rw [HSz2.out] at f4
        have FW := hid fw
        clear hc fw HSz HSz2
        go_wp2_with fail
        refine (w35 z _ w hz0 hz1 (by omega)).mono ?_
        rintro e w1 ⟨T2, rfl, rfl, hT20, hT21⟩
        go_wp2_with fail
        refine (w35 T2 _ w hT20 hT21 (by omega)).mono ?_
        rintro e w1 ⟨T3, rfl, rfl, hT30, hT31⟩
        go_wp2_with fail
        refine (w34 T3 _ _ w hT30 hT31 FW.out).mono ?_
        rintro e w1 ⟨T4, rfl, rfl, hT40, hT41⟩
        go_wp2
        go_round
        case rel => exact ⟨k + 1, T4, by omega, by go_num, by go_num, by omega, by omega⟩
        case measure => simp [intOf]; omega
      · go_wp2
        go_ret
        exact ⟨z, rfl, rfl, hz0, hz1⟩
    · go_wp2
      go_ret
      exact ⟨z, rfl, rfl, hz0, hz1⟩

end Go.Proofs.Qxb6614661aR
