import Derived.Test.Qxb6615584aWb
namespace Go.Proofs.Qxb6615584a
open Go.RowKit

theorem info9 : (Try.prog.info? 9).map (fun i => i.size) = some 1 := by kernel_rfl
theorem size9 (w : World) : (sizeOf 9).run Try.prog w = .ok 1 w := by
  have h := info9
  cases hi : Try.prog.info? 9 with
  | none => rw [hi] at h; cases h
  | some i => rw [hi] at h; simp at h; simp [sizeOf, typeInfo, hi, h]
theorem elem22 : Try.prog.elem 22 = 9 := by kernel_rfl
theorem slice22_h (a : Option Addr) (n c k : Nat) (h : k ≤ c) (w : World) :
    (Instr.slice 22 (.slice a n c) none (some (.int .i64 (k : Int))) none).run Try.prog w = .ok (.slice a k c) w := by
  rw [run_slice_h (P := Try.prog) w 22 a n c (by rw [elem22]; exact Try.underlying22) .i64 k (by omega) (by omega), elem22, size9]
  simp only [Result.andThen, sliced, Nat.zero_mul, Int.toNat_natCast, Nat.sub_zero]
  cases a <;> simp [Addr.add]
theorem slice22_l (a : Option Addr) (n c k : Nat) (h : k ≤ n) :
    ∃ a', ∀ w, (Instr.slice 22 (.slice a n c) (some (.int .i64 (k : Int))) none none).run Try.prog w = .ok (.slice a' (n - k) (c - k)) w := by
  refine ⟨if c = k then a else a.map (·.add (k * 1)), fun w => ?_⟩
  rw [run_slice_l (P := Try.prog) w 22 a n c (by rw [elem22]; exact Try.underlying22) .i64 k (by omega) (by omega), elem22, size9]
  simp only [Result.andThen, sliced, Int.toNat_natCast]

set_option maxRecDepth 100000 in
set_option maxHeartbeats 1000000 in
theorem walk4 (a1 : Option Addr) (n1 c1 : Nat) (a2 : Option Addr) (n2 c2 : Nat) (r : Option Nat) (n3 : Nat) (r2 : Option Nat) (n4 : Nat) (s i j : Int) (w : World)
    (hs1 : StrRow w a1 n1) (hs2 : StrRow w a2 n2) (hr : MapLen w r n3) (hr2 : MapLen w r2 n4) (l1 : n1 ≤ c1) (l2 : n2 ≤ c2) :
    Calls Try.prog 4 #[.slice a1 n1 c1, .slice a2 n2 c2, .map r, .map r2, .int .u64 s, .int .i64 i, .int .i64 j] w fun e w' => e = .returned (.bool true) ∧ Below w.heap.size w w' := by
  have HR := hid hr
  have H6 := hid (w6 a1 n1 c1 a2 n2 c2 r n3 r2 n4 w hs1 hs2 hr hr2)
  clear hs1 hs2 hr hr2
  go_enter Try.func4, Try.ntmps4
  go_wp2_with fail
  refine H6.out.mono ?_
  rintro e w1 ⟨v, rfl, rfl, hv⟩
  have HV := hid hv
  clear hv
  cases v
  case false =>
    go_wp2
    go_ret
    exact ⟨rfl, Below.refl _ _⟩
  obtain ⟨h1, h2, h3⟩ := HV.out rfl
  clear HV H6
  by_cases i0 : i < 0
  · go_wp2
    go_ret
    exact ⟨rfl, Below.refl _ _⟩
  by_cases i1 : (n1 : Int) < i
  · go_wp2
    go_ret
    exact ⟨rfl, Below.refl _ _⟩
  by_cases j0 : j < 0
  · go_wp2
    go_ret
    exact ⟨rfl, Below.refl _ _⟩
  by_cases j1 : (n2 : Int) < j
  · go_wp2
    go_ret
    exact ⟨rfl, Below.refl _ _⟩
  obtain ⟨k, rfl⟩ : ∃ k : Nat, i = (k : Int) := ⟨i.toNat, by omega⟩
  obtain ⟨m, rfl⟩ : ∃ m : Nat, j = (m : Int) := ⟨j.toNat, by omega⟩
  have hk : k ≤ n1 := by omega
  have hm : m ≤ n2 := by omega
  have sh1 := fun wx => slice22_h a1 n1 c1 k (by omega) wx
  have sh2 := fun wx => slice22_h a2 n2 c2 m (by omega) wx
  obtain ⟨b1, sl1⟩ := slice22_l a1 n1 c1 k hk
  obtain ⟨b2, sl2⟩ := slice22_l a2 n2 c2 m hm
  go_wp2_with fail
  refine (w7 a1 n1 c1 a2 n2 c2 r n3 r2 s w h1 h2 h3 HR.out).mono ?_
  rintro e w1 ⟨rfl, hb⟩
  have HB := hid hb
  clear hb
  have HR1 : Hid (MapLen w1 r n3) := HR.out.below HB.out (Nat.le_refl _)
  clear HR
  go_wp2_with fail
  go_region_with (first
    | (go_at_call_of 7 (Value.map r); refine (w7 a1 k c1 a2 m c2 r n3 r2 s _ (by omega) (by omega) h3 ?_).mono ?_; exact HR1.out; rintro e w2 ⟨rfl, hb⟩))
  have HB2 : Hid (Below w.heap.size w w2) := HB.out.drew.trans (hb.mono HB.out.size)
  clear hb HR1 HB
  have HN : Hid (MapLen w2 none 0) := Or.inl ⟨rfl, rfl⟩
  go_wp2_with fail
  go_region_with (first
    | (go_at_call_of 7 (Value.map Option.none); refine (w7 b1 (n1 - k) (c1 - k) b2 (n2 - m) (c2 - m) Option.none 0 Option.none s _ (by omega) (by omega) (by omega) ?_).mono ?_; exact HN.out; rintro e w3 ⟨rfl, hb⟩))
  have HB3 : Hid (Below w.heap.size w w3) := HB2.out.drew.trans (hb.mono HB2.out.size)
  clear hb HN HB2
  obtain ⟨x, HX⟩ : ∃ x, Hid (isNone n1 n2 n3 = x) := ⟨_, rfl⟩
  obtain ⟨y, HY⟩ : ∃ x, Hid (isNone k m n3 = x) := ⟨_, rfl⟩
  obtain ⟨z, HZ⟩ : ∃ x, Hid (isNone (n1 - k) (n2 - m) 0 = x) := ⟨_, rfl⟩
  have hxyz : (x = true ↔ n1 = 0 ∧ n2 = 0 ∧ n3 = 0) ∧ (y = true ↔ k = 0 ∧ m = 0 ∧ n3 = 0) ∧ (z = true ↔ k = n1 ∧ m = n2) := by
    rw [← HX.out, ← HY.out, ← HZ.out]
    simp only [isNone, beq_iff_eq]
    omega
  have HF := hid hxyz
  rw [HX.out, HY.out, HZ.out]
  clear hxyz sh1 sh2 sl1 sl2
  clear HX HY HZ i0 i1 j0 j1
  by_cases e1 : (k : Int) = n1
  · by_cases e2 : (m : Int) = n2
    · obtain rfl : z = true := HF.out.2.2.2 ⟨by omega, by omega⟩
      obtain rfl : x = y := by
        have h := HF.out
        cases x <;> cases y <;> simp at h ⊢ <;> omega
      cases x
      · go_wp2
        go_ret
        exact ⟨rfl, HB3.out⟩
      · go_wp2
        go_ret
        exact ⟨rfl, HB3.out⟩
    · have e2' : ((m : Int) == n2) = false := by simpa using e2
      have h := HF.out
      obtain rfl : z = false := by cases z <;> simp at h ⊢; omega
      obtain rfl : x = false := by cases x <;> simp at h ⊢; omega
      clear h
      cases y
      · go_wp2
        go_ret
        exact ⟨rfl, HB3.out⟩
      · go_wp2
        go_ret
        exact ⟨rfl, HB3.out⟩
  · have e1' : ((k : Int) == n1) = false := by simpa using e1
    have h := HF.out
    obtain rfl : z = false := by cases z <;> simp at h ⊢; omega
    obtain rfl : x = false := by cases x <;> simp at h ⊢; omega
    clear h
    cases y
    · go_wp2
      go_ret
      exact ⟨rfl, HB3.out⟩
    · go_wp2
      go_ret
      exact ⟨rfl, HB3.out⟩

end Go.Proofs.Qxb6615584a
