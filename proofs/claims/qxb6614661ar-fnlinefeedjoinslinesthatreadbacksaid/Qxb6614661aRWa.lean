import Derived.Test.Qxb6614661aRRows
import Derived.Test.Qxb6614661aRKit
namespace Go.Proofs.Qxb6614661aR
open Go.RowKit

set_option maxHeartbeats 400000 in
theorem w15 (p q : Bool) (n : Int) (a b : ByteArray) (w : World) (ha : a.size ≤ maxLen) (hb : b.size ≤ maxLen) :
    Calls Try.prog 15 #[.bool p, .bool q, .int .i64 n, .string a, .string b] w fun e w' => (e = .returned (.bool (decide (a.size + b.size ≤ 1048576)))) ∧ w' = w := by
  unfold maxLen at ha hb
  by_cases h1 : a.size ≤ 1048576
  · by_cases h2 : b.size ≤ 1048576
    · by_cases h3 : a.size + b.size ≤ 1048576
      · rw [decide_eq_true h3]
        go_enter Try.func15, Try.ntmps15
        go_wp2
        go_ret
        exact ⟨rfl, rfl⟩
      · rw [decide_eq_false h3]
        go_enter Try.func15, Try.ntmps15
        go_wp2
        go_ret
        exact ⟨rfl, rfl⟩
    · rw [decide_eq_false (by omega)]
      go_enter Try.func15, Try.ntmps15
      go_wp2
      go_ret
      exact ⟨rfl, rfl⟩
  · rw [decide_eq_false (by omega)]
    go_enter Try.func15, Try.ntmps15
    go_wp2
    go_ret
    exact ⟨rfl, rfl⟩

set_option maxHeartbeats 400000 in
theorem w63a (r : Int) (w : World) (h : (0 ≤ r ∧ r < 55296) ∨ (57344 ≤ r ∧ r < 65536)) :
    Calls Try.prog 63 #[.int .i32 r] w fun e w' => e = .returned (.int .i64 1) ∧ w' = w := by
  rcases h with ⟨h1, h2⟩ | ⟨h1, h2⟩
  · go_enter Try.func63, Try.ntmps63
    go_wp2
    go_ret
    exact ⟨rfl, rfl⟩
  · have h0 : 0 ≤ r := by omega
    have h3 : ¬ r < 55296 := by omega
    go_enter Try.func63, Try.ntmps63
    go_wp2
    go_ret
    exact ⟨rfl, rfl⟩

set_option maxHeartbeats 400000 in
theorem w63b (r : Int) (w : World) (h1 : 65536 ≤ r) (h2 : r ≤ 1114111) :
    Calls Try.prog 63 #[.int .i32 r] w fun e w' => e = .returned (.int .i64 2) ∧ w' = w := by
  go_enter Try.func63, Try.ntmps63
  go_wp2
  go_ret
  exact ⟨rfl, rfl⟩

theorem wraps_i32 : ∀ n : Int, 0 ≤ n → n < 2 ^ 31 → IntKind.i32.wrap n = n := by
  intro n h0 h1
  simp [IntKind.wrap, IntKind.bits, IntKind.signed]
  omega

set_option maxHeartbeats 400000 in
theorem w64 (r : Int) (w : World) (h1 : 65536 ≤ r) (h2 : r ≤ 1114111) :
    Calls Try.prog 64 #[.int .i32 r] w fun e w' => e = .returned (.tuple #[.int .i32 (55296 + (r - 65536) / 1024), .int .i32 (56320 + (r - 65536) % 1024)]) ∧ w' = w := by
  have m1 : bits .and .i32 ((r - 65536) / 1024) 1023 = (r - 65536) / 1024 := by
    have := bits_mask .i32 31 (by decide) wraps_i32 10 (by decide) ((r - 65536) / 1024) (by omega) (by omega)
    simp at this
    rw [this]
    omega
  have m2 : bits .and .i32 (r - 65536) 1023 = (r - 65536) % 1024 := by
    have := bits_mask .i32 31 (by decide) wraps_i32 10 (by decide) (r - 65536) (by omega) (by omega)
    simpa using this
  go_enter Try.func64, Try.ntmps64
  go_wp2
  go_ret2
  exact ⟨rfl, rfl⟩

set_option maxHeartbeats 400000 in
theorem w18 (b1 b2 : Nat) (c1 c2 n : Nat) (zs : List Int) (w : World) (hn : zs.length = n) (hm : n ≤ maxLen) (r1 : Row .u8 w b1 0 zs) (r2 : Row .u8 w b2 0 zs) :
    Calls Try.prog 18 #[.slice (some ⟨b1, 0, none⟩) n c1, .slice (some ⟨b2, 0, none⟩) n c2] w fun e w' => e = .returned (.bool true) ∧ ∃ q, w' = w.drewN q := by
  unfold maxLen at hm
  have R1 := r1
  have R2 := r2
  clear r1 r2
  go_enter Try.func18, Try.ntmps18
  go_wp2
  go_loopw [5] (fun i wr => ∃ k q : Nat, k ≤ n ∧ i = .int .i64 k ∧ wr = w.drewN q) (fun i _ => n - (intOf i).toNat)
  case atStart => exact ⟨0, 0, Nat.zero_le _, rfl, rfl⟩
  case round =>
    obtain ⟨k, q, hk, rfl, rfl⟩ := hrel
    by_cases hlt : k < n
    · have g1 := R1 k (by omega)
      have g2 := R2 k (by omega)
      simp only [Nat.zero_add] at g1 g2
      go_wp2
      go_region
      go_wp2
      go_roundw
      case rel => exact ⟨k + 1, q + 1, by omega, by go_num, rfl⟩
      case measure => simp [intOf]; omega
    · go_wp2
      go_ret
      exact ⟨rfl, q, rfl⟩

end Go.Proofs.Qxb6614661aR
