import Derived.Test.Qxb6614661aRWa
import Derived.Test.Qxb6614661aRPl2
namespace Go.Proofs.Qxb6614661aR
open Go.RowKit

set_option maxHeartbeats 400000 in
theorem w85 (g o n c : Nat) (v : Int) (v0 v1 : Value) (w : World) (hn : 2 ≤ n) (h0 : 0 ≤ v) (h1 : v < 65536) (hg : g < w.heap.size)
    (c0 : w.cell? ⟨g, o, none⟩ = some v0) (c1 : w.cell? ⟨g, o + 1, none⟩ = some v1) (f0 : w.frozen? ⟨g, o, none⟩ = false) (f1 : w.frozen? ⟨g, o + 1, none⟩ = false) :
    Calls Try.prog 85 #[.agg #[], .slice (some ⟨g, o, none⟩) n c, .int .u16 v] w fun e w' => e = .returned (.tuple #[]) ∧
      w' = ((w.setCell ⟨g, o, none⟩ (.int .u8 (v / 256))).setCell ⟨g, o + 1, none⟩ (.int .u8 (v % 256))).alloc (.cells #[] 112) := by
  go_enter Try.func85, Try.ntmps85
  go_wp2
  go_end0
  exact ⟨rfl, rfl⟩

set_option maxHeartbeats 400000 in
theorem w93 (g o n c : Nat) (v : Int) (v0 v1 : Value) (w : World) (hn : 2 ≤ n) (h0 : 0 ≤ v) (h1 : v < 65536) (hg : g < w.heap.size)
    (c0 : w.cell? ⟨g, o, none⟩ = some v0) (c1 : w.cell? ⟨g, o + 1, none⟩ = some v1) (f0 : w.frozen? ⟨g, o, none⟩ = false) (f1 : w.frozen? ⟨g, o + 1, none⟩ = false) :
    Calls Try.prog 93 #[.agg #[], .slice (some ⟨g, o, none⟩) n c, .int .u16 v] w fun e w' => e = .returned (.tuple #[]) ∧
      w' = ((w.setCell ⟨g, o, none⟩ (.int .u8 (v % 256))).setCell ⟨g, o + 1, none⟩ (.int .u8 (v / 256))).alloc (.cells #[] 113) := by
  go_enter Try.func93, Try.ntmps93
  go_wp2
  go_end0
  exact ⟨rfl, rfl⟩

theorem info121 : (Try.prog.info? 121).map (fun i => (i.zero, i.size, i.bytes)) = some (some (.int .u16 0), 1, 2) := by kernel_rfl
theorem info5 : (Try.prog.info? 5).map (fun i => (i.zero, i.size, i.bytes)) = some (some (.int .u8 0), 1, 1) := by kernel_rfl

theorem make118 (n : Nat) (h : n ≤ 4194304) (w : World) : (Instr.makeSlice 118 (.int .i64 (n : Int)) (.int .i64 (n : Int))).run Try.prog w =
    .ok (.slice (some ⟨w.heap.size, 0, none⟩) n n) (w.alloc (.cells (madeCells #[.int .u16 0] n) 121)) := by
  obtain ⟨i0, hi, hz0, hz1, hz2⟩ := info_parts info121
  have := run_make w (P := Try.prog) 118 121 i0 (.int .u16 0) Try.underlying118 hi hz0 .i64 .i64 n n (by omega) (by omega) (by rw [hz2]; omega) (by omega)
  rw [this, hz1]
  simp [Value.cells]

set_option maxRecDepth 100000 in
set_option maxHeartbeats 1000000 in
theorem w61 (b c n : Nat) (rs : List Nat) (w : World) (hr : ∀ r ∈ rs, scalar r) (hn : rs.length = n) (hm : n ≤ 1048576) (hb : b < w.heap.size) (hrow : Row .i32 w b 0 (ints rs)) :
    Calls Try.prog 61 #[.slice (some ⟨b, 0, none⟩) n c] w fun e w' => e = .returned (.slice (some ⟨w.heap.size, 0, none⟩) (unitsL rs).length (unitsL rs).length) ∧
      Own w' w.heap.size 121 (unitsL rs).length ∧ Row .u16 w' w.heap.size 0 (unitsL rs) ∧ Below w.heap.size w w' := by
  have HR : Hid (∀ r ∈ rs, scalar r) := hr
  have HN : Hid (rs.length = n) := hn
  have HROW : Hid (Row .i32 w b 0 (ints rs)) := hrow
  clear hr hn hrow
  go_enter Try.func61, Try.ntmps61
  go_wp2
  go_loop [3, 15] (fun t i => ∃ k T : Nat, k ≤ n ∧ i = .int .i64 k ∧ t = .int .i64 T ∧ T ≤ 2097152 ∧ Hid (T + k = n + (unitsL (rs.take k)).length)) (fun _ i => n - (intOf i).toNat)
  case atStart => exact ⟨0, n, Nat.zero_le _, rfl, rfl, by omega, by simp [unitsL, Hid]⟩
  case round =>
    obtain ⟨k, T, hk, rfl, rfl, hT, HTK⟩ := hrel
    by_cases hlt : k < n
    · obtain ⟨r, hrm, htk, hget⟩ := take_get rs k (by have := HN.out; omega)
      obtain ⟨z, HZ⟩ : ∃ z : Int, Hid ((r : Int) = z) := ⟨_, rfl⟩
      have hc : w.cell? ⟨b, k, none⟩ = some (.int .i32 z) := by
        have := HROW.out k (by rw [ints_length, HN.out]; exact hlt)
        rw [hget, HZ.out] at this
        simpa using this
      have HT : Hid (rs.take (k + 1) = rs.take k ++ [r]) := htk
      have hlen := unitsL_len (rs.take k)
      rw [List.length_take, HN.out, Nat.min_eq_left hk] at hlen
      have hlim : T ≤ 2097151 := by have := HTK.out; omega
      clear hget htk hrm hlen
      by_cases hbig : z < 65536
      · go_wp2
        go_round
        case rel => exact ⟨k + 1, T, by omega, by go_num, by go_num, by omega, by have := HTK.out; rw [HT.out, unitsL_snoc, units_small (by have := HZ.out; omega), List.length_append]; simp [Hid]; omega⟩
        case measure => simp [intOf]; omega
      · go_wp2
        go_round
        case rel => exact ⟨k + 1, T + 1, by omega, by go_num, by go_num, by omega, by have := HTK.out; rw [HT.out, unitsL_snoc, units_big (by have := HZ.out; omega), List.length_append]; simp [Hid]; omega⟩
        case measure => simp [intOf]; omega
    · obtain rfl : k = n := by omega
      have htk : rs.take k = rs := by rw [List.take_of_length_le]; rw [HN.out]; exact Nat.le_refl _
      have hlen := unitsL_len rs
      have HT : Hid (rs.take k = rs) := htk
      rw [HN.out] at hlen
      obtain rfl : T = (unitsL rs).length := by have := HTK.out; rw [htk] at this; omega
      clear htk
      have hmk := fun w => make118 (unitsL rs).length (by omega) w
      have hU : (unitsL rs).length ≤ 2097152 := by omega
      obtain ⟨U, HU⟩ : ∃ U, Hid ((unitsL rs).length = U) := ⟨_, rfl⟩
      rw [HU.out] at hmk hU hlen ⊢
      go_wp2
      go_loopw [3, 28] (fun t i wr => ∃ m : Nat, m ≤ k ∧ i = .int .i64 m ∧ t = .int .i64 (unitsL (rs.take m)).length ∧ Own wr w.heap.size 121 U ∧
        Hid (Row .u16 wr w.heap.size 0 (unitsL (rs.take m))) ∧ Below w.heap.size w wr) (fun _ i _ => k - (intOf i).toNat)
      case atStart => exact ⟨0, Nat.zero_le _, rfl, rfl, own_made w _ _ _, Row.nil _ _ _ _, (Below.refl _ _).alloc (Nat.le_refl _) _⟩
      case round =>
        obtain ⟨m, hm2, rfl, rfl, hown, hrow, hbel⟩ := hrel
        by_cases hlt : m < k
        · obtain ⟨r, hrm, htk, hget⟩ := take_get rs m (by have := HN.out; omega)
          have hsc := HR.out r hrm
          have hc : wr.cell? ⟨b, m, none⟩ = some (.int .i32 r) := by
            rw [hbel.cell (p := ⟨b, m, none⟩) hb]
            have := HROW.out m (by rw [ints_length, HN.out]; exact hlt)
            rw [hget] at this
            simpa using this
          have HT : Hid (rs.take (m + 1) = rs.take m ++ [r]) := htk
          have hle := unitsL_take_le rs (m + 1)
          rw [HU.out, htk, unitsL_snoc] at hle
          obtain ⟨L, HL⟩ : ∃ L, Hid ((unitsL (rs.take m)).length = L) := ⟨_, rfl⟩
          rw [List.length_append, HL.out] at hle
          rw [HL.out]
          have hf := fun j => hown.frozen j
          clear hget htk hrm
          by_cases hbig : (r : Int) < 65536
          · rw [units_small (by omega)] at hle
            simp at hle
            obtain ⟨v0, hv0⟩ := hown.cell L (by omega)
            have hsc' : (0 ≤ (r : Int) ∧ (r : Int) < 55296) ∨ (57344 ≤ (r : Int) ∧ (r : Int) < 65536) := by rcases hsc with h | ⟨h1, h2⟩ <;> omega
            have H63 := fun w => w63a r w hsc'
            clear hsc hsc'
            go_wp2_with (go_at_call 63; refine (H63 _).mono ?_; rintro e w' ⟨rfl, rfl⟩)
            go_roundw
            case rel =>
              refine ⟨m + 1, by omega, by go_num, by rw [HT.out, unitsL_snoc, units_small (by omega), List.length_append, HL.out]; go_num, hown.setCell _ _, ?_, hbel.setCell (Nat.le_refl _) _⟩
              rw [HT.out, unitsL_snoc, units_small (by omega)]
              have := hrow.out.snoc hown (by rw [HL.out]; omega) (r : Int)
              rw [HL.out, Nat.zero_add] at this
              exact this
            case measure => simp [intOf]; omega
          · rw [units_big (by omega)] at hle
            simp at hle
            obtain ⟨v0, hv0⟩ := hown.cell L (by omega)
            obtain ⟨v1, hv1⟩ := hown.cell (L + 1) (by omega)
            have h1 : 65536 ≤ (r : Int) := by omega
            have h2 : (r : Int) ≤ 1114111 := by rcases hsc with h | ⟨h1, h2⟩ <;> omega
            have H63 := fun w => w63b r w h1 h2
            have H64 := fun w => w64 r w h1 h2
            clear hsc
            go_wp2_with (first | (go_at_call 63; refine (H63 _).mono ?_; rintro e w' ⟨rfl, rfl⟩) | (go_at_call 64; refine (H64 _).mono ?_; rintro e w' ⟨rfl, rfl⟩))
            go_roundw
            case rel =>
              refine ⟨m + 1, by omega, by go_num, by rw [HT.out, unitsL_snoc, units_big (by omega), List.length_append, HL.out]; go_num, (hown.setCell _ _).setCell _ _, ?_, (hbel.setCell (Nat.le_refl _) _).setCell (Nat.le_refl _) _⟩
              rw [HT.out, unitsL_snoc, units_big (by omega)]
              have t1 := hrow.out.snoc hown (by rw [HL.out]; omega) (55296 + ((r : Int) - 65536) / 1024)
              have t2 := t1.snoc (hown.setCell _ _) (by rw [List.length_append, HL.out]; simp; omega) (56320 + ((r : Int) - 65536) % 1024)
              rw [List.length_append, HL.out, Nat.zero_add, Nat.zero_add, List.append_assoc] at t2
              exact t2
            case measure => simp [intOf]; omega
        · obtain rfl : m = k := by omega
          have hU2 := HU.out
          subst hU2
          rw [HT.out] at hrow ⊢
          go_wp2
          go_ret
          exact ⟨rfl, hown, hrow.out, hbel⟩

end Go.Proofs.Qxb6614661aR
