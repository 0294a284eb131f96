import Derived.Test.Qxb6614661aRWe
import Derived.Test.Qxb6614661aRPl4
namespace Go.Proofs.Qxb6614661aR
open Go.RowKit

theorem byteInts_getD (s : ByteArray) (k : Nat) (h : k < s.size) : (byteInts s).getD k 0 = (s[k].toNat : Int) := by
  have h' : k < s.data.size := h
  simp [byteInts, Array.getElem?_eq_getElem h']
  rfl

set_option maxHeartbeats 400000 in
theorem w20n (big : Bool) (g c : Nat) (a : ByteArray) (w : World) (ha : a.size ≤ 1048576) (hrow : Row .u8 w g 0 (byteInts a)) :
    Calls Try.prog 20 #[.bool false, .bool big, .string a, .slice (some ⟨g, 0, none⟩) a.size c] w fun e w' => e = .returned (.bool true) ∧ ∃ q, w' = w.drewN q := by
  have R : Hid (Row .u8 w g 0 (byteInts a)) := hrow
  clear hrow
  go_enter Try.func20, Try.ntmps20
  go_wp2
  go_loopw [9] (fun i wr => ∃ k q : Nat, k ≤ a.size ∧ i = .int .i64 k ∧ wr = w.drewN q) (fun i _ => a.size - (intOf i).toNat)
  case atStart => exact ⟨0, 0, Nat.zero_le _, rfl, rfl⟩
  case round =>
    obtain ⟨k, q, hk, rfl, rfl⟩ := hrel
    by_cases hlt : k < a.size
    · have g1 := R.out k (by rw [byteInts_length]; exact hlt)
      rw [byteInts_getD a k hlt, Nat.zero_add] at g1
      go_wp2
      go_region
      go_wp2
      go_roundw
      case rel => exact ⟨k + 1, q + 1, by omega, by go_num, rfl⟩
      case measure => simp [intOf]; omega
    · go_wp2
      go_ret
      exact ⟨rfl, q, rfl⟩

theorem cnt_step (a : ByteArray) (k : Nat) (h : k < a.size) : cnt (a.data.toList.take (k + 1)) = cnt (a.data.toList.take k) + inc a[k] := by
  rw [take_snoc a k h, cnt_app]
  simp [cnt]

theorem cnt_le (a : ByteArray) (k : Nat) : cnt (a.data.toList.take k) ≤ cnt a.data.toList := by
  have h := cnt_app (a.data.toList.take k) (a.data.toList.drop k)
  rw [List.take_append_drop] at h
  omega

theorem inc_0 (c : UInt8) (h : 128 ≤ (c.toNat : Int)) (h2 : (c.toNat : Int) < 192) : inc c = 0 := by
  unfold inc; rw [if_pos (by omega), if_neg (by omega)]
theorem inc_1 (c : UInt8) (h : (c.toNat : Int) < 128 ∨ (192 ≤ (c.toNat : Int) ∧ (c.toNat : Int) < 240)) : inc c = 1 := by
  unfold inc; rw [if_neg (by omega), if_neg (by omega)]
theorem inc_2 (c : UInt8) (h : 240 ≤ (c.toNat : Int)) : inc c = 2 := by
  have := c.toNat_lt
  unfold inc; rw [if_neg (by omega), if_pos (by omega)]

set_option maxRecDepth 100000 in
set_option maxHeartbeats 2000000 in
theorem w20w (big : Bool) (g c n : Nat) (a : ByteArray) (rs : List Nat) (w : World) (ha : a.size ≤ 1048576) (hr : ∀ r ∈ rs, scalar r) (hs : a.data.toList = rs.flatMap encL)
    (hn : n = 2 * (unitsL rs).length) (hrow : Row .u8 w g 0 (wideBytes big (unitsL rs))) :
    Calls Try.prog 20 #[.bool true, .bool big, .string a, .slice (some ⟨g, 0, none⟩) n c] w fun e w' => e = .returned (.bool true) ∧ w' = w := by
  have R : Hid (Row .u8 w g 0 (wideBytes big (unitsL rs))) := hrow
  have hcl := cnt_flat rs hr
  have hU := unitsL_len rs
  have hfl := flat_len rs
  rw [← hs] at hcl hfl
  rw [← size_toList] at hfl
  have hasc := ascii_unit rs hr
  rw [← hs] at hasc
  have HASC : Hid _ := hasc
  obtain ⟨U, HU⟩ : ∃ U, Hid ((unitsL rs).length = U) := ⟨_, rfl⟩
  rw [HU.out] at hcl hU hn
  have HCL : Hid (cnt a.data.toList = U) := hcl
  have hle := fun k => cnt_le a k
  rw [hcl] at hle
  subst hn
  clear hrow hasc hcl hr hs
  go_enter Try.func20, Try.ntmps20
  go_wp2
  go_loop [10, 11] (fun u i => ∃ k : Nat, k ≤ a.size ∧ i = .int .i64 k ∧ u = .int .i64 (cnt (a.data.toList.take k))) (fun _ i => a.size - (intOf i).toNat)
  case atStart => exact ⟨0, Nat.zero_le _, rfl, rfl⟩
  case round =>
    obtain ⟨k, hk, rfl, rfl⟩ := hrel
    by_cases hlt : k < a.size
    · have hst := cnt_step a k hlt
      have hl1 := hle k
      have hl2 := hle (k + 1)
      obtain ⟨X, HX⟩ : ∃ X, Hid (cnt (a.data.toList.take k) = X) := ⟨_, rfl⟩
      rw [HX.out] at hst hl1 ⊢
      have HST : Hid (cnt (a.data.toList.take (k + 1)) = X + inc a[k]) := hst
      clear hst hl2 hle
      by_cases c1 : (a[k].toNat : Int) < 128
      · have hb := test192a a[k] (by omega)
        go_wp2
        go_round
        case rel => exact ⟨k + 1, by omega, by go_num, by rw [HST.out, inc_1 _ (by omega)]; go_num⟩
        case measure => simp [intOf]; omega
      · by_cases c2 : (a[k].toNat : Int) < 192
        · have hb := test192b a[k] (by omega) (by omega)
          go_wp2
          go_round
          case rel => exact ⟨k + 1, by omega, by go_num, by rw [HST.out, inc_0 _ (by omega) (by omega)]; go_num⟩
          case measure => simp [intOf]; omega
        · have hb := test192a a[k] (by omega)
          by_cases c3 : (a[k].toNat : Int) < 240
          · go_wp2
            go_round
            case rel => exact ⟨k + 1, by omega, by go_num, by rw [HST.out, inc_1 _ (by omega)]; go_num⟩
            case measure => simp [intOf]; omega
          · go_wp2
            go_round
            case rel => exact ⟨k + 1, by omega, by go_num, by rw [HST.out, inc_2 _ (by omega)]; go_num⟩
            case measure => simp [intOf]; omega
    · obtain rfl : k = a.size := by omega
      have e : a.data.toList.take a.size = a.data.toList := List.take_of_length_le (by rw [size_toList]; exact Nat.le_refl _)
      rw [e, HCL.out]
      clear e
      go_wp2
      go_loop [13, 14] (fun u i => ∃ k : Nat, k ≤ a.size ∧ i = .int .i64 k ∧ u = .int .i64 (cnt (a.data.toList.take k))) (fun _ i => a.size - (intOf i).toNat)
      case atStart => exact ⟨0, Nat.zero_le _, rfl, rfl⟩
      case round =>
        obtain ⟨k, hk, rfl, rfl⟩ := hrel
        by_cases hlt : k < a.size
        · have hst := cnt_step a k hlt
          have hl1 := hle k
          have hasc := HASC.out k (by rw [← size_toList]; exact hlt)
          have ek : a.data.toList.getD k 0 = a[k] := by
            have h' : k < a.data.size := hlt
            simp [Array.getElem?_eq_getElem h']
            rfl
          rw [ek, HU.out] at hasc
          obtain ⟨X, HX⟩ : ∃ X, Hid (cnt (a.data.toList.take k) = X) := ⟨_, rfl⟩
          rw [HX.out] at hst hl1 hasc ⊢
          have HST : Hid (cnt (a.data.toList.take (k + 1)) = X + inc a[k]) := hst
          have HA : Hid _ := hasc
          clear hst hle hasc ek
          by_cases c1 : (a[k].toNat : Int) < 128
          · have hb := test192a a[k] (by omega)
            obtain ⟨hXU, hval⟩ := HA.out (by omega)
            have hwg := wide_get big (unitsL rs) X (by rw [HU.out]; exact hXU)
            rw [hval] at hwg
            have g1 := R.out (2 * X) (by rw [wideBytes_length, HU.out]; omega)
            have g2 := R.out (2 * X + 1) (by rw [wideBytes_length, HU.out]; omega)
            rw [hwg.1, Nat.zero_add] at g1
            rw [hwg.2, Nat.zero_add] at g2
            have hd1 : (a[k].toNat : Int) / 256 = 0 := by omega
            have hd2 : (a[k].toNat : Int) % 256 = (a[k].toNat : Int) := by omega
            clear hwg hval HA
            cases big
            · simp only [ub, hd1, hd2] at g1 g2
              simp at g1 g2
              clear hd1 hd2
              go_wp2
              go_round
              case rel => exact ⟨k + 1, by omega, by go_num, by rw [HST.out, inc_1 _ (by omega)]; go_num⟩
              case measure => simp [intOf]; omega
            · simp only [ub, hd1, hd2] at g1 g2
              simp at g1 g2
              clear hd1 hd2
              go_wp2
              go_round
              case rel => exact ⟨k + 1, by omega, by go_num, by rw [HST.out, inc_1 _ (by omega)]; go_num⟩
              case measure => simp [intOf]; omega
          · by_cases c2 : (a[k].toNat : Int) < 192
            · have hb := test192b a[k] (by omega) (by omega)
              go_wp2
              go_round
              case rel => exact ⟨k + 1, by omega, by go_num, by rw [HST.out, inc_0 _ (by omega) (by omega)]; go_num⟩
              case measure => simp [intOf]; omega
            · have hb := test192a a[k] (by omega)
              by_cases c3 : (a[k].toNat : Int) < 240
              · go_wp2
                go_round
                case rel => exact ⟨k + 1, by omega, by go_num, by rw [HST.out, inc_1 _ (by omega)]; go_num⟩
                case measure => simp [intOf]; omega
              · go_wp2
                go_round
                case rel => exact ⟨k + 1, by omega, by go_num, by rw [HST.out, inc_2 _ (by omega)]; go_num⟩
                case measure => simp [intOf]; omega
        · go_wp2
          go_ret
          exact ⟨rfl, rfl⟩

end Go.Proofs.Qxb6614661aR
