import Derived.Test.Qxb6614661aRPl
namespace Go.Proofs.Qxb6614661aR

/-- the code points as integers -/
def ints (rs : List Nat) : List Int := rs.map Int.ofNat
theorem ints_length (rs : List Nat) : (ints rs).length = rs.length := by simp [ints]

/-- the UTF-16 units of one code point -/
def units (r : Nat) : List Int := if r < 65536 then [(r : Int)] else [55296 + ((r : Int) - 65536) / 1024, 56320 + ((r : Int) - 65536) % 1024]
def unitsL (rs : List Nat) : List Int := rs.flatMap units

theorem units_small {r : Nat} (h : r < 65536) : units r = [(r : Int)] := by unfold units; rw [if_pos h]
theorem units_big {r : Nat} (h : 65536 ≤ r) : units r = [55296 + ((r : Int) - 65536) / 1024, 56320 + ((r : Int) - 65536) % 1024] := by unfold units; rw [if_neg (by omega)]

theorem take_get (rs : List Nat) (k : Nat) (h : k < rs.length) : ∃ r, r ∈ rs ∧ rs.take (k + 1) = rs.take k ++ [r] ∧ (ints rs).getD k 0 = (r : Int) := by
  refine ⟨rs[k], List.getElem_mem h, List.take_succ_eq_append_getElem h, ?_⟩
  simp [ints, List.getElem?_eq_getElem h]

theorem unitsL_snoc (xs : List Nat) (r : Nat) : unitsL (xs ++ [r]) = unitsL xs ++ units r := by simp [unitsL]

theorem unitsL_len (xs : List Nat) : xs.length ≤ (unitsL xs).length ∧ (unitsL xs).length ≤ 2 * xs.length := by
  induction xs with
  | nil => simp [unitsL]
  | cons x xs ih =>
    have hx : (units x).length = 1 ∨ (units x).length = 2 := by unfold units; split <;> simp
    simp [unitsL] at ih ⊢
    omega

theorem unitsL_app (xs ys : List Nat) : unitsL (xs ++ ys) = unitsL xs ++ unitsL ys := by simp [unitsL]

theorem unitsL_take_le (xs : List Nat) (k : Nat) : (unitsL (xs.take k)).length ≤ (unitsL xs).length := by
  have h : unitsL xs = unitsL (xs.take k) ++ unitsL (xs.drop k) := by rw [← unitsL_app, List.take_append_drop]
  rw [h]
  simp

/-- the two bytes of a unit, in the byte order -/
def ub (big : Bool) (u : Int) : List Int := if big then [u / 256, u % 256] else [u % 256, u / 256]
def wideBytes (big : Bool) (us : List Int) : List Int := us.flatMap (ub big)

theorem ub_length (big : Bool) (u : Int) : (ub big u).length = 2 := by unfold ub; split <;> rfl

theorem wideBytes_length (big : Bool) (us : List Int) : (wideBytes big us).length = 2 * us.length := by
  induction us with
  | nil => simp [wideBytes]
  | cons u us ih => have := ub_length big u; simp [wideBytes] at ih ⊢; omega

theorem wideBytes_snoc (big : Bool) (us : List Int) (u : Int) : wideBytes big (us ++ [u]) = wideBytes big us ++ ub big u := by simp [wideBytes]
theorem wideBytes_app (big : Bool) (us vs : List Int) : wideBytes big (us ++ vs) = wideBytes big us ++ wideBytes big vs := by simp [wideBytes]

theorem units_range (r : Nat) (h : scalar r) : ∀ u ∈ units r, 0 ≤ u ∧ u < 65536 := by
  intro u hu
  unfold units at hu
  unfold scalar at h
  split at hu
  · simp at hu; omega
  · simp at hu; omega

theorem unitsL_range (rs : List Nat) (h : ∀ r ∈ rs, scalar r) : ∀ u ∈ unitsL rs, 0 ≤ u ∧ u < 65536 := by
  intro u hu
  simp only [unitsL, List.mem_flatMap] at hu
  obtain ⟨r, hr, hu⟩ := hu
  exact units_range r (h r hr) u hu

theorem take_getI (us : List Int) (k : Nat) (h : k < us.length) : ∃ u, u ∈ us ∧ us.take (k + 1) = us.take k ++ [u] ∧ us.getD k 0 = u := by
  refine ⟨us[k], List.getElem_mem h, List.take_succ_eq_append_getElem h, ?_⟩
  simp [List.getElem?_eq_getElem h]

end Go.Proofs.Qxb6614661aR
