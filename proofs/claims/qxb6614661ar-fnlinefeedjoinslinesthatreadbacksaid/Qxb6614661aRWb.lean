import Derived.Test.Qxb6614661aRRows
import Derived.Test.Qxb6614661aRPl
import Derived.WalkKit
import Derived.WalkSpells
import Derived.WalkLawsBesides
import Derived.Deep.CutBlock
namespace Go.Proofs.Qxb6614661aR
open Go.RowKit

/-- what zzValidUTF8 answers: a bool; where it is true the string is well-formed. -/
def Post16 (s : ByteArray) (w : World) (e : Ending) (w' : World) : Prop := ∃ v : Bool, e = .returned (.bool v) ∧ w' = w ∧ (v = true → Wf s s.size)

theorem in_step {s : ByteArray} {k m : Nat} (h : ∀ t (h : k + t < s.size), 2 ≤ t → t < m → 128 ≤ (s[k + t].toNat : Int) ∧ (s[k + t].toNat : Int) ≤ 191) (hm : k + m < s.size)
    (h1 : 128 ≤ (s[k + m].toNat : Int)) (h2 : (s[k + m].toNat : Int) ≤ 191) : ∀ t (h : k + t < s.size), 2 ≤ t → t < m + 1 → 128 ≤ (s[k + t].toNat : Int) ∧ (s[k + t].toNat : Int) ≤ 191 := by
  intro t ht h3 h4
  by_cases e : t = m
  · subst e; exact ⟨h1, h2⟩
  · exact h t ht h3 (by omega)

/-- the classes of a leading byte c: how many bytes, the bounds of the second. -/
def Cls (c : Int) (N : Nat) (lo hi : Int) : Prop :=
  (N = 2 ∧ 194 ≤ c ∧ c ≤ 223 ∧ lo = 128 ∧ hi = 191) ∨
  (N = 3 ∧ 224 ≤ c ∧ c ≤ 239 ∧ 128 ≤ lo ∧ hi ≤ 191 ∧ (c = 224 → 160 ≤ lo) ∧ (c = 237 → hi ≤ 159)) ∨
  (N = 4 ∧ 240 ≤ c ∧ c ≤ 244 ∧ 128 ≤ lo ∧ hi ≤ 191 ∧ (c = 240 → 144 ≤ lo) ∧ (c = 244 → hi ≤ 143))

theorem wf_cls {s : ByteArray} {k N : Nat} {LO HI : Int} (hw : Wf s k) (hN : k + N ≤ s.size) (hN2 : 2 ≤ N) (hc : Cls (s[k].toNat : Int) N LO HI)
    (d1 : LO ≤ (s[k + 1].toNat : Int)) (d2 : (s[k + 1].toNat : Int) ≤ HI) (hin : ∀ t (h : k + t < s.size), 2 ≤ t → t < N → 128 ≤ (s[k + t].toNat : Int) ∧ (s[k + t].toNat : Int) ≤ 191) : Wf s (k + N) := by
  rcases hc with ⟨rfl, h1, h2, h3, h4⟩ | ⟨rfl, h1, h2, h3, h4, h5, h6⟩ | ⟨rfl, h1, h2, h3, h4, h5, h6⟩
  · exact wf2 hw (by omega) h1 h2 (by omega) (by omega)
  · have t2 := hin 2 (by omega) (by omega) (by omega)
    exact wf3 hw (by omega) h1 h2 (by omega) (by omega) (fun e => by have := h5 e; omega) (fun e => by have := h6 e; omega) t2.1 t2.2
  · have t2 := hin 2 (by omega) (by omega) (by omega)
    have t3 := hin 3 (by omega) (by omega) (by omega)
    exact wf4 hw (by omega) h1 h2 (by omega) (by omega) (fun e => by have := h5 e; omega) (fun e => by have := h6 e; omega) t2.1 t2.2 t3.1 t3.2

set_option maxRecDepth 100000 in
set_option maxHeartbeats 4000000 in
theorem w16 (s : ByteArray) (w : World) (hs : s.size ≤ maxLen) :
    Calls Try.prog 16 #[.string s] w (Post16 s w) := by
  unfold maxLen at hs
  go_enter Try.func16, Try.ntmps16
  go_wp2
  go_loop [3] (fun i => ∃ k : Nat, k ≤ s.size ∧ i = .int .i64 k ∧ Hid (Wf s k)) (fun i => s.size - (intOf i).toNat)
  case atStart => exact ⟨0, Nat.zero_le _, rfl, wf_zero s⟩
  case round =>
    obtain ⟨k, hk, rfl, hwf⟩ := hrel
    by_cases hlt : k < s.size
    · by_cases c0 : (s[k].toNat : Int) < 128
      · go_wp2
        go_round
        case rel => exact ⟨k + 1, by omega, by go_num, wf1 hwf.out hlt c0⟩
        case measure => simp [intOf]; omega
      · go_upto_block 2 with fail
        go_cut [5, 6, 7] from 11 to 98 (fun n lo hi wx => wx = w ∧ ∃ (N : Nat) (LO HI : Int), n = .int .i64 N ∧ lo = .int .u8 LO ∧ hi = .int .u8 HI ∧ 2 ≤ N ∧ N ≤ 4 ∧ Hid (Cls (s[k].toNat : Int) N LO HI))
        case first =>
          by_cases hA : 194 ≤ (s[k].toNat : Int) ∧ (s[k].toNat : Int) ≤ 223
          · obtain ⟨aA, bA⟩ := hA
            have e224 : ((s[k].toNat : Int) == 224) = false := by simp; omega
            have e237 : ((s[k].toNat : Int) == 237) = false := by simp; omega
            have e238 : ((s[k].toNat : Int) == 238) = false := by simp; omega
            have e239 : ((s[k].toNat : Int) == 239) = false := by simp; omega
            have e240 : ((s[k].toNat : Int) == 240) = false := by simp; omega
            have e244 : ((s[k].toNat : Int) == 244) = false := by simp; omega
            go_wp2
            go_meet
            case rel => exact ⟨rfl, 2, 128, 191, rfl, rfl, rfl, by omega, by omega, Or.inl ⟨rfl, by omega, by omega, rfl, rfl⟩⟩
          by_cases hB : 224 ≤ (s[k].toNat : Int) ∧ (s[k].toNat : Int) ≤ 224
          · obtain ⟨aB, bB⟩ := hB
            have e224 : ((s[k].toNat : Int) == 224) = true := by simp; omega
            have e237 : ((s[k].toNat : Int) == 237) = false := by simp; omega
            have e238 : ((s[k].toNat : Int) == 238) = false := by simp; omega
            have e239 : ((s[k].toNat : Int) == 239) = false := by simp; omega
            have e240 : ((s[k].toNat : Int) == 240) = false := by simp; omega
            have e244 : ((s[k].toNat : Int) == 244) = false := by simp; omega
            clear hA
            go_wp2
            go_meet
            case rel => exact ⟨rfl, 3, 160, 191, rfl, rfl, rfl, by omega, by omega, Or.inr (Or.inl ⟨rfl, by omega, by omega, by omega, by omega, by omega, by omega⟩)⟩
          by_cases hC : 225 ≤ (s[k].toNat : Int) ∧ (s[k].toNat : Int) ≤ 236
          · obtain ⟨aC, bC⟩ := hC
            have e224 : ((s[k].toNat : Int) == 224) = false := by simp; omega
            have e237 : ((s[k].toNat : Int) == 237) = false := by simp; omega
            have e238 : ((s[k].toNat : Int) == 238) = false := by simp; omega
            have e239 : ((s[k].toNat : Int) == 239) = false := by simp; omega
            have e240 : ((s[k].toNat : Int) == 240) = false := by simp; omega
            have e244 : ((s[k].toNat : Int) == 244) = false := by simp; omega
            clear hA hB
            go_wp2
            go_meet
            case rel => exact ⟨rfl, 3, 128, 191, rfl, rfl, rfl, by omega, by omega, Or.inr (Or.inl ⟨rfl, by omega, by omega, by omega, by omega, by omega, by omega⟩)⟩
          by_cases hD : 237 ≤ (s[k].toNat : Int) ∧ (s[k].toNat : Int) ≤ 237
          · obtain ⟨aD, bD⟩ := hD
            have e224 : ((s[k].toNat : Int) == 224) = false := by simp; omega
            have e237 : ((s[k].toNat : Int) == 237) = true := by simp; omega
            have e238 : ((s[k].toNat : Int) == 238) = false := by simp; omega
            have e239 : ((s[k].toNat : Int) == 239) = false := by simp; omega
            have e240 : ((s[k].toNat : Int) == 240) = false := by simp; omega
            have e244 : ((s[k].toNat : Int) == 244) = false := by simp; omega
            clear hA hB hC
            go_wp2
            go_meet
            case rel => exact ⟨rfl, 3, 128, 159, rfl, rfl, rfl, by omega, by omega, Or.inr (Or.inl ⟨rfl, by omega, by omega, by omega, by omega, by omega, by omega⟩)⟩
          by_cases hE : 238 ≤ (s[k].toNat : Int) ∧ (s[k].toNat : Int) ≤ 238
          · obtain ⟨aE, bE⟩ := hE
            have e224 : ((s[k].toNat : Int) == 224) = false := by simp; omega
            have e237 : ((s[k].toNat : Int) == 237) = false := by simp; omega
            have e238 : ((s[k].toNat : Int) == 238) = true := by simp; omega
            have e239 : ((s[k].toNat : Int) == 239) = false := by simp; omega
            have e240 : ((s[k].toNat : Int) == 240) = false := by simp; omega
            have e244 : ((s[k].toNat : Int) == 244) = false := by simp; omega
            clear hA hB hC hD
            go_wp2
            go_meet
            case rel => exact ⟨rfl, 3, 128, 191, rfl, rfl, rfl, by omega, by omega, Or.inr (Or.inl ⟨rfl, by omega, by omega, by omega, by omega, by omega, by omega⟩)⟩
          by_cases hF : 239 ≤ (s[k].toNat : Int) ∧ (s[k].toNat : Int) ≤ 239
          · obtain ⟨aF, bF⟩ := hF
            have e224 : ((s[k].toNat : Int) == 224) = false := by simp; omega
            have e237 : ((s[k].toNat : Int) == 237) = false := by simp; omega
            have e238 : ((s[k].toNat : Int) == 238) = false := by simp; omega
            have e239 : ((s[k].toNat : Int) == 239) = true := by simp; omega
            have e240 : ((s[k].toNat : Int) == 240) = false := by simp; omega
            have e244 : ((s[k].toNat : Int) == 244) = false := by simp; omega
            clear hA hB hC hD hE
            go_wp2
            go_meet
            case rel => exact ⟨rfl, 3, 128, 191, rfl, rfl, rfl, by omega, by omega, Or.inr (Or.inl ⟨rfl, by omega, by omega, by omega, by omega, by omega, by omega⟩)⟩
          by_cases hG : 240 ≤ (s[k].toNat : Int) ∧ (s[k].toNat : Int) ≤ 240
          · obtain ⟨aG, bG⟩ := hG
            have e224 : ((s[k].toNat : Int) == 224) = false := by simp; omega
            have e237 : ((s[k].toNat : Int) == 237) = false := by simp; omega
            have e238 : ((s[k].toNat : Int) == 238) = false := by simp; omega
            have e239 : ((s[k].toNat : Int) == 239) = false := by simp; omega
            have e240 : ((s[k].toNat : Int) == 240) = true := by simp; omega
            have e244 : ((s[k].toNat : Int) == 244) = false := by simp; omega
            clear hA hB hC hD hE hF
            go_wp2
            go_meet
            case rel => exact ⟨rfl, 4, 144, 191, rfl, rfl, rfl, by omega, by omega, Or.inr (Or.inr ⟨rfl, by omega, by omega, by omega, by omega, by omega, by omega⟩)⟩
          by_cases hH : 241 ≤ (s[k].toNat : Int) ∧ (s[k].toNat : Int) ≤ 243
          · obtain ⟨aH, bH⟩ := hH
            have e224 : ((s[k].toNat : Int) == 224) = false := by simp; omega
            have e237 : ((s[k].toNat : Int) == 237) = false := by simp; omega
            have e238 : ((s[k].toNat : Int) == 238) = false := by simp; omega
            have e239 : ((s[k].toNat : Int) == 239) = false := by simp; omega
            have e240 : ((s[k].toNat : Int) == 240) = false := by simp; omega
            have e244 : ((s[k].toNat : Int) == 244) = false := by simp; omega
            clear hA hB hC hD hE hF hG
            go_wp2
            go_meet
            case rel => exact ⟨rfl, 4, 128, 191, rfl, rfl, rfl, by omega, by omega, Or.inr (Or.inr ⟨rfl, by omega, by omega, by omega, by omega, by omega, by omega⟩)⟩
          by_cases hI : 244 ≤ (s[k].toNat : Int) ∧ (s[k].toNat : Int) ≤ 244
          · obtain ⟨aI, bI⟩ := hI
            have e224 : ((s[k].toNat : Int) == 224) = false := by simp; omega
            have e237 : ((s[k].toNat : Int) == 237) = false := by simp; omega
            have e238 : ((s[k].toNat : Int) == 238) = false := by simp; omega
            have e239 : ((s[k].toNat : Int) == 239) = false := by simp; omega
            have e240 : ((s[k].toNat : Int) == 240) = false := by simp; omega
            have e244 : ((s[k].toNat : Int) == 244) = true := by simp; omega
            clear hA hB hC hD hE hF hG hH
            go_wp2
            go_meet
            case rel => exact ⟨rfl, 4, 128, 143, rfl, rfl, rfl, by omega, by omega, Or.inr (Or.inr ⟨rfl, by omega, by omega, by omega, by omega, by omega, by omega⟩)⟩
          by_cases hZ : (s[k].toNat : Int) < 194
          · have e224 : ((s[k].toNat : Int) == 224) = false := by simp; omega
            have e237 : ((s[k].toNat : Int) == 237) = false := by simp; omega
            have e238 : ((s[k].toNat : Int) == 238) = false := by simp; omega
            have e239 : ((s[k].toNat : Int) == 239) = false := by simp; omega
            have e240 : ((s[k].toNat : Int) == 240) = false := by simp; omega
            have e244 : ((s[k].toNat : Int) == 244) = false := by simp; omega
            clear hA hB hC hD hE hF hG hH hI
            go_wp2
            go_ret
            exact ⟨false, rfl, rfl, by simp⟩
          · have hZ2 : 244 < (s[k].toNat : Int) := by omega
            have e224 : ((s[k].toNat : Int) == 224) = false := by simp; omega
            have e237 : ((s[k].toNat : Int) == 237) = false := by simp; omega
            have e238 : ((s[k].toNat : Int) == 238) = false := by simp; omega
            have e239 : ((s[k].toNat : Int) == 239) = false := by simp; omega
            have e240 : ((s[k].toNat : Int) == 240) = false := by simp; omega
            have e244 : ((s[k].toNat : Int) == 244) = false := by simp; omega
            clear hA hB hC hD hE hF hG hH hI
            go_wp2
            go_ret
            exact ⟨false, rfl, rfl, by simp⟩
        case rest =>
          obtain ⟨rfl, N, LO, HI, rfl, rfl, rfl, hN2, hN4, hcls⟩ := hcut
          by_cases hN : k + N ≤ s.size
          · by_cases d1 : (s[k + 1].toNat : Int) < LO
            · go_wp2
              go_ret
              exact ⟨false, rfl, rfl, by simp⟩
            · by_cases d2 : HI < (s[k + 1].toNat : Int)
              · go_wp2
                go_ret
                exact ⟨false, rfl, rfl, by simp⟩
              · go_wp2
                go_loop [9] (fun j => ∃ m : Nat, 2 ≤ m ∧ m ≤ N ∧ j = .int .i64 m ∧ Hid (∀ t (h : k + t < s.size), 2 ≤ t → t < m → 128 ≤ (s[k + t].toNat : Int) ∧ (s[k + t].toNat : Int) ≤ 191)) (fun j => N - (intOf j).toNat)
                case atStart => exact ⟨2, by omega, by omega, rfl, fun t h h1 h2 => by omega⟩
                case round =>
                  obtain ⟨m, hm2, hmN, rfl, hin⟩ := hrel
                  by_cases hmlt : m < N
                  · by_cases e1 : (s[k + m].toNat : Int) < 128
                    · go_wp2
                      go_ret
                      exact ⟨false, rfl, rfl, by simp⟩
                    · by_cases e2 : 191 < (s[k + m].toNat : Int)
                      · go_wp2
                        go_ret
                        exact ⟨false, rfl, rfl, by simp⟩
                      · go_wp2
                        go_round
                        case rel => exact ⟨m + 1, by omega, by omega, by go_num, in_step hin.out (by omega) (by omega) (by omega)⟩
                        case measure => simp [intOf]; omega
                  · obtain rfl : m = N := by omega
                    have HW : Hid (Wf s (k + m)) := wf_cls hwf.out hN hN2 hcls.out (by omega) (by omega) hin.out
                    clear hcls hin
                    go_wp2
                    go_round
                    case rel => exact ⟨k + m, by omega, by go_num, HW⟩
                    case measure => simp [intOf]; omega
          · go_wp2
            go_ret
            exact ⟨false, rfl, rfl, by simp⟩
    · obtain rfl : k = s.size := by omega
      go_wp2
      go_ret
      exact ⟨true, rfl, rfl, fun _ => hwf.out⟩

end Go.Proofs.Qxb6614661aR
