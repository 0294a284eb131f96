import Derived.Test.Qxb6614661aRPl3
import Derived.Laws.BitsAllLaws
namespace Go.Proofs.Qxb6614661aR

/-- by how much a byte raises the count of UTF-16 units. -/
def inc (c : UInt8) : Nat := (if c.toNat / 64 = 2 then 0 else 1) + (if 240 ≤ c.toNat then 1 else 0)
def cnt (l : List UInt8) : Nat := (l.map inc).sum

theorem cnt_app (a b : List UInt8) : cnt (a ++ b) = cnt a + cnt b := by simp [cnt]

theorem inc_lead {n : Nat} (h1 : n < 128 ∨ (192 ≤ n ∧ n < 240)) : inc (UInt8.ofNat n) = 1 := by
  unfold inc
  rw [toNat_ofNat (by omega), if_neg (by omega), if_neg (by omega)]
theorem inc_four {n : Nat} (h1 : 240 ≤ n) (h2 : n < 256) : inc (UInt8.ofNat n) = 2 := by
  unfold inc
  rw [toNat_ofNat (by omega), if_neg (by omega), if_pos (by omega)]
theorem inc_cont {n : Nat} (h1 : 128 ≤ n) (h2 : n < 192) : inc (UInt8.ofNat n) = 0 := by
  unfold inc
  rw [toNat_ofNat (by omega), if_pos (by omega), if_neg (by omega)]

theorem cnt_enc (r : Nat) (h : scalar r) : cnt (encL r) = (units r).length := by
  have hm : r ≤ 1114111 := by rcases h with h | ⟨_, h⟩ <;> omega
  by_cases h1 : r < 128
  · rw [encL1 h1, units_small (by omega)]
    simp only [cnt, List.map_cons, List.map_nil, List.sum_cons, List.sum_nil, List.length_cons, List.length_nil, inc_lead (n := r) (by omega)]
    rfl
  · by_cases h2 : r < 2048
    · rw [encL2 (by omega) h2, units_small (by omega)]
      simp only [cnt, List.map_cons, List.map_nil, List.sum_cons, List.sum_nil, List.length_cons, List.length_nil, inc_lead (n := 192 + r / 64) (by omega), inc_cont (n := 128 + r % 64) (by omega) (by omega)]
      rfl
    · by_cases h3 : r < 65536
      · rw [encL3 (by omega) h3, units_small (by omega)]
        simp only [cnt, List.map_cons, List.map_nil, List.sum_cons, List.sum_nil, List.length_cons, List.length_nil, inc_lead (n := 224 + r / 4096) (by omega), inc_cont (n := 128 + r % 64) (by omega) (by omega), inc_cont (n := 128 + r / 64 % 64) (by omega) (by omega)]
        rfl
      · rw [encL4 (by omega), units_big (by omega)]
        simp only [cnt, List.map_cons, List.map_nil, List.sum_cons, List.sum_nil, List.length_cons, List.length_nil, inc_four (n := 240 + r / 262144) (by omega) (by omega), inc_cont (n := 128 + r % 64) (by omega) (by omega), inc_cont (n := 128 + r / 64 % 64) (by omega) (by omega), inc_cont (n := 128 + r / 4096 % 64) (by omega) (by omega)]
        rfl

theorem cnt_flat (rs : List Nat) (h : ∀ r ∈ rs, scalar r) : cnt (rs.flatMap encL) = (unitsL rs).length := by
  induction rs with
  | nil => simp [cnt, unitsL]
  | cons r rs ih =>
    have e1 := cnt_enc r (h r (by simp))
    have e2 := ih (fun x hx => h x (by simp [hx]))
    simp only [List.flatMap_cons, unitsL] at e2 ⊢
    rw [cnt_app, List.length_append, e1, e2]

/-- a byte below 128 in a code point's bytes is the whole code point -/
theorem enc_ascii (r : Nat) (h : scalar r) (j : Nat) (hj : j < (encL r).length) (hc : ((encL r).getD j 0).toNat < 128) : j = 0 ∧ r < 128 := by
  have hm : r ≤ 1114111 := by rcases h with h | ⟨_, h⟩ <;> omega
  by_cases h1 : r < 128
  · rw [encL1 h1] at hj; simp at hj; exact ⟨hj, h1⟩
  · exfalso
    by_cases h2 : r < 2048
    · rw [encL2 (by omega) h2] at hj hc
      simp at hj
      match j, hj with
      | 0, _ => simp at hc; omega
      | 1, _ => simp at hc; omega
    · by_cases h3 : r < 65536
      · rw [encL3 (by omega) h3] at hj hc
        simp at hj
        match j, hj with
        | 0, _ => simp at hc; omega
        | 1, _ => simp at hc; omega
        | 2, _ => simp at hc; omega
      · rw [encL4 (by omega)] at hj hc
        simp at hj
        match j, hj with
        | 0, _ => simp at hc; omega
        | 1, _ => simp at hc; omega
        | 2, _ => simp at hc; omega
        | 3, _ => simp at hc; omega

/-- an ASCII byte at place j is the unit at the place that the bytes before it count. -/
theorem ascii_unit : ∀ (rs : List Nat), (∀ r ∈ rs, scalar r) → ∀ (j : Nat), j < (rs.flatMap encL).length → ((rs.flatMap encL).getD j 0).toNat < 128 →
    cnt ((rs.flatMap encL).take j) < (unitsL rs).length ∧ (unitsL rs).getD (cnt ((rs.flatMap encL).take j)) 0 = (((rs.flatMap encL).getD j 0).toNat : Int)
  | [], _, j, hj, _ => by simp at hj
  | r :: rs, h, j, hj, hc => by
    have hr := h r (by simp)
    have ih := ascii_unit rs (fun x hx => h x (by simp [hx]))
    simp only [List.flatMap_cons, unitsL] at hj hc ih ⊢
    by_cases hlt : j < (encL r).length
    · have e0 : (encL r ++ List.flatMap encL rs).getD j 0 = (encL r).getD j 0 := by simp [List.getElem?_append_left hlt]
      rw [e0] at hc ⊢
      obtain ⟨rfl, h1⟩ := enc_ascii r hr j hlt hc
      rw [encL1 h1, units_small (by omega)]
      simp [cnt]
      omega
    · have e0 : (encL r ++ List.flatMap encL rs).getD j 0 = (List.flatMap encL rs).getD (j - (encL r).length) 0 := by simp [List.getElem?_append_right (show (encL r).length ≤ j by omega)]
      rw [e0] at hc ⊢
      rw [List.length_append] at hj
      obtain ⟨i1, i2⟩ := ih (j - (encL r).length) (by omega) hc
      rw [List.take_append, List.take_of_length_le (by omega), cnt_app, cnt_enc r hr]
      refine ⟨by rw [List.length_append]; omega, ?_⟩
      rw [← i2]
      simp [List.getElem?_append_right (show (units r).length ≤ (units r).length + cnt (List.take (j - (encL r).length) (List.flatMap encL rs)) by omega)]

theorem wide_get (big : Bool) : ∀ (us : List Int) (u : Nat), u < us.length →
    (wideBytes big us).getD (2 * u) 0 = (ub big (us.getD u 0)).getD 0 0 ∧ (wideBytes big us).getD (2 * u + 1) 0 = (ub big (us.getD u 0)).getD 1 0
  | [], u, h => by simp at h
  | x :: us, 0, _ => by cases big <;> simp [wideBytes, ub]
  | x :: us, u + 1, h => by
    have ih := wide_get big us u (by simpa using h)
    have e : wideBytes big (x :: us) = ub big x ++ wideBytes big us := by simp [wideBytes]
    have hl := ub_length big x
    rw [e]
    have a1 : (ub big x ++ wideBytes big us).getD (2 * (u + 1)) 0 = (wideBytes big us).getD (2 * u) 0 := by
      simp [List.getElem?_append_right (show (ub big x).length ≤ 2 * (u + 1) by omega), hl, show 2 * (u + 1) - 2 = 2 * u by omega]
    have a2 : (ub big x ++ wideBytes big us).getD (2 * (u + 1) + 1) 0 = (wideBytes big us).getD (2 * u + 1) 0 := by
      simp [List.getElem?_append_right (show (ub big x).length ≤ 2 * (u + 1) + 1 by omega), hl, show 2 * (u + 1) + 1 - 2 = 2 * u + 1 by omega]
    rw [a1, a2]
    simpa using ih

theorem and192 : ∀ c : Nat, c < 256 → c &&& 192 = c / 64 * 64 := by decide +kernel

theorem bits192 (c : UInt8) : bits .and .u8 (c.toNat : Int) 192 = ((c.toNat / 64 * 64 : Nat) : Int) := by
  have h := c.toNat_lt
  have := u8_and_nat c.toNat 192 (by omega) (by omega)
  rw [and192 _ (by omega)] at this
  exact this

theorem test192a (c : UInt8) (h : c.toNat < 128 ∨ 192 ≤ c.toNat) : (bits .and .u8 (c.toNat : Int) 192 != 128) = true := by
  have := c.toNat_lt
  rw [bits192]
  simp
  omega

theorem test192b (c : UInt8) (h : 128 ≤ c.toNat) (h2 : c.toNat < 192) : (bits .and .u8 (c.toNat : Int) 192 != 128) = false := by
  rw [bits192]
  simp
  omega

end Go.Proofs.Qxb6614661aR
