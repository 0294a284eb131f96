import Derived.Test.Qxb6614661aRPl2
namespace Go.Proofs.Qxb6614661aR

theorem get!_eq (s : ByteArray) (i : Nat) (h : i < s.size) : s.get! i = s.data.toList.getD i 0 := by
  have h' : i < s.data.size := h
  show s.data[i]! = _
  rw [getElem!_pos s.data i h']
  simp [Array.getElem?_eq_getElem h']

theorem encL_len (r : Nat) : 1 ≤ (encL r).length ∧ (encL r).length ≤ 4 := by
  unfold encL
  split
  · simp
  · split
    · simp
    · split <;> simp

theorem size_toList (s : ByteArray) : s.size = s.data.toList.length := by show s.data.size = _; simp

theorem get_mid (s : ByteArray) (pre mid post : List UInt8) (hs : s.data.toList = pre ++ mid ++ post) (k : Nat) (hk : k < mid.length) :
    pre.length + k < s.size ∧ (s.get! (pre.length + k)).toNat = (mid.getD k 0).toNat := by
  have hl : s.size = pre.length + mid.length + post.length := by rw [size_toList, hs]; simp; omega
  refine ⟨by omega, ?_⟩
  rw [get!_eq s _ (by omega), hs]
  have : (pre ++ mid ++ post).getD (pre.length + k) 0 = mid.getD k 0 := by
    simp only [List.getD_eq_getElem?_getD]
    rw [List.append_assoc, List.getElem?_append_right (by omega), show pre.length + k - pre.length = k by omega, List.getElem?_append_left hk]
  rw [this]

theorem toNat_ofNat {n : Nat} (h : n < 256) : (UInt8.ofNat n).toNat = n := by
  simp [UInt8.toNat_ofNat', Nat.mod_eq_of_lt h]

theorem decode_enc (s : ByteArray) (pre post : List UInt8) (r : Nat) (hr : scalar r) (hs : s.data.toList = pre ++ encL r ++ post) :
    Go.Utf8.decode s pre.length = (r, (encL r).length) := by
  have hv := valid_of hr
  by_cases h1 : r < 128
  · have e := encL1 h1
    have g0 := get_mid s pre _ post hs 0 (by rw [e]; simp)
    rw [e] at g0 ⊢
    simp only [List.getD_eq_getElem?_getD] at g0
    simp at g0
    rw [Nat.mod_eq_of_lt (by omega)] at g0
    unfold Go.Utf8.decode
    simp only [Nat.add_zero, g0.2]
    rw [if_pos h1]
    rfl
  · by_cases h2 : r < 2048
    · have e := encL2 (by omega) h2
      have g0 := get_mid s pre _ post hs 0 (by rw [e]; simp)
      have g1 := get_mid s pre _ post hs 1 (by rw [e]; simp)
      rw [e] at g0 g1 ⊢
      simp only [List.getD_eq_getElem?_getD] at g0 g1
      simp at g0 g1
      rw [Nat.mod_eq_of_lt (by omega)] at g0 g1
      unfold Go.Utf8.decode
      simp only [Nat.add_zero, g0.2, g1.2]
      rw [if_neg (by omega), if_pos (by simp; omega), if_pos (by omega)]
      simp
      omega
    · by_cases h3 : r < 65536
      · have e := encL3 (by omega) h3
        have g0 := get_mid s pre _ post hs 0 (by rw [e]; simp)
        have g1 := get_mid s pre _ post hs 1 (by rw [e]; simp)
        have g2 := get_mid s pre _ post hs 2 (by rw [e]; simp)
        rw [e] at g0 g1 g2 ⊢
        simp only [List.getD_eq_getElem?_getD] at g0 g1 g2
        simp at g0 g1 g2
        rw [Nat.mod_eq_of_lt (by omega)] at g0 g1 g2
        unfold Go.Utf8.decode
        have hc : (224 + r / 4096) % 16 * 4096 + (128 + r / 64 % 64) % 64 * 64 + (128 + r % 64) % 64 = r := by omega
        simp only [Nat.add_zero, g0.2, g1.2, g2.2, hc]
        rw [if_neg (by omega), if_neg (by simp; omega), if_pos (by simp; omega), if_pos (by rw [hv]; simp; omega)]
        simp
      · have e := encL4 (r := r) (by omega)
        have hm : r ≤ 1114111 := by rcases hr with h | ⟨_, h⟩ <;> omega
        have g0 := get_mid s pre _ post hs 0 (by rw [e]; simp)
        have g1 := get_mid s pre _ post hs 1 (by rw [e]; simp)
        have g2 := get_mid s pre _ post hs 2 (by rw [e]; simp)
        have g3 := get_mid s pre _ post hs 3 (by rw [e]; simp)
        rw [e] at g0 g1 g2 g3 ⊢
        simp only [List.getD_eq_getElem?_getD] at g0 g1 g2 g3
        simp at g0 g1 g2 g3
        rw [Nat.mod_eq_of_lt (by omega)] at g0 g1 g2 g3
        unfold Go.Utf8.decode
        have hc : (240 + r / 262144) % 8 * 262144 + (128 + r / 4096 % 64) % 64 * 4096 + (128 + r / 64 % 64) % 64 * 64 + (128 + r % 64) % 64 = r := by omega
        simp only [Nat.add_zero, g0.2, g1.2, g2.2, g3.2, hc]
        rw [if_neg (by omega), if_neg (by simp; omega), if_neg (by simp; omega), if_pos (by simp; omega), if_pos (by rw [hv]; simp; omega)]
        simp

theorem runesFrom_enc (s : ByteArray) : ∀ (rs : List Nat) (pre : List UInt8) (bound : Nat) (acc : Array Value), (∀ r ∈ rs, scalar r) → s.data.toList = pre ++ rs.flatMap encL → rs.length ≤ bound →
    Conv.runesFrom s bound pre.length acc = acc ++ (rs.map fun r => Value.int .i32 (Int.ofNat r)).toArray
  | [], pre, bound, acc, _, hs, _ => by
    have hl : s.size = pre.length := by rw [size_toList, hs]; simp
    cases bound with
    | zero => simp [Conv.runesFrom]
    | succ b => unfold Conv.runesFrom; rw [if_neg (by omega)]; simp
  | r :: rs, pre, bound, acc, hr, hs, hb => by
    have hs' : s.data.toList = pre ++ encL r ++ rs.flatMap encL := by rw [hs]; simp
    have hd := decode_enc s pre _ r (hr r (by simp)) hs'
    have hl := encL_len r
    have hsz : pre.length < s.size := by rw [size_toList, hs']; simp; omega
    cases bound with
    | zero => simp at hb
    | succ b =>
      unfold Conv.runesFrom
      rw [if_pos hsz, hd]
      have ih := runesFrom_enc s rs (pre ++ encL r) b (acc.push (.int .i32 (Int.ofNat r))) (fun x hx => hr x (by simp [hx])) (by rw [hs']) (by simp at hb; omega)
      rw [List.length_append] at ih
      show Conv.runesFrom s b (pre.length + (encL r).length) _ = _
      rw [ih]
      simp

theorem flat_len (rs : List Nat) : rs.length ≤ (rs.flatMap encL).length := by
  induction rs with
  | nil => simp
  | cons r rs ih => have := encL_len r; simp at ih ⊢; omega

/-- '[]rune(s)' of a well-formed string gives its code points. -/
theorem runes_of (s : ByteArray) (rs : List Nat) (hr : ∀ r ∈ rs, scalar r) (hs : s.data.toList = rs.flatMap encL) :
    Conv.runesFrom s s.size 0 #[] = (rs.map fun r => Value.int .i32 (Int.ofNat r)).toArray := by
  have := runesFrom_enc s rs [] s.size #[] hr (by simpa using hs) (by rw [size_toList, hs]; exact flat_len rs)
  simpa using this

end Go.Proofs.Qxb6614661aR
