import Derived.Test.Qxb6615584aWb
namespace Go.Proofs.Qxb6615584a
open Go.RowKit

set_option maxRecDepth 100000 in
theorem walk3 (a1 : Option Addr) (n1 c1 : Nat) (a2 : Option Addr) (n2 c2 : Nat) (r : Option Nat) (n3 : Nat) (r2 : Option Nat) (n4 : Nat) (s : Int) (w : World)
    (hs1 : StrRow w a1 n1) (hs2 : StrRow w a2 n2) (hr : MapLen w r n3) (hr2 : MapLen w r2 n4) :
    Calls Try.prog 3 #[.slice a1 n1 c1, .slice a2 n2 c2, .map r, .map r2, .int .u64 s] w fun e w' => e = .returned (.bool true) ∧ Below w.heap.size w w' := by
  have HR := hid hr
  have H6 := hid (w6 a1 n1 c1 a2 n2 c2 r n3 r2 n4 w hs1 hs2 hr hr2)
  clear hs1 hs2 hr hr2
  go_enter Try.func3, Try.ntmps3
  go_wp2_with fail
  refine H6.out.mono ?_
  rintro e w1 ⟨v, rfl, rfl, hv⟩
  have HV := hid hv
  clear hv
  cases v
  case false =>
    go_wp2
    go_ret
    exact ⟨rfl, Below.refl _ _⟩
  obtain ⟨h1, h2, h3⟩ := HV.out rfl
  clear HV H6
  go_wp2_with fail
  refine (w7 a1 n1 c1 a2 n2 c2 r n3 r2 s w h1 h2 h3 HR.out).mono ?_
  rintro e w1 ⟨rfl, hb⟩
  have HB := hid hb
  clear hb
  go_wp2_with fail
  refine (w7 a1 n1 c1 a2 n2 c2 r n3 none 0 w1 h1 h2 h3 (HR.out.below HB.out (Nat.le_refl _))).mono ?_
  rintro e w2 ⟨rfl, hb⟩
  have HB2 : Hid (Below w.heap.size w w2) := HB.out.trans (hb.mono HB.out.size)
  clear hb
  have HL : (Builtin.len_ #[23] 3 #[.map r]).run Try.prog w2 = .ok (.int .i64 (n3 : Int)) w2 := (HR.out.below HB2.out (Nat.le_refl _)).run23
  clear HR HB
  obtain ⟨b, HE⟩ : ∃ b, Hid (isNone n1 n2 n3 = b) := ⟨_, rfl⟩
  rw [HE.out]
  by_cases z1 : (n1 : Int) = 0
  case neg =>
    have z1' : ((n1 : Int) == 0) = false := by simpa using z1
    obtain rfl : b = false := by rw [← HE.out]; simp only [isNone, beq_eq_false_iff_ne]; omega
    go_wp2
    go_ret
    exact ⟨rfl, HB2.out⟩
  by_cases z2 : (n2 : Int) = 0
  case neg =>
    have z2' : ((n2 : Int) == 0) = false := by simpa using z2
    obtain rfl : b = false := by rw [← HE.out]; simp only [isNone, beq_eq_false_iff_ne]; omega
    go_wp2
    go_ret
    exact ⟨rfl, HB2.out⟩
  by_cases z3 : (n3 : Int) = 0
  case neg =>
    have z3' : ((n3 : Int) == 0) = false := by simpa using z3
    obtain rfl : b = false := by rw [← HE.out]; simp only [isNone, beq_eq_false_iff_ne]; omega
    go_wp2
    go_ret
    exact ⟨rfl, HB2.out⟩
  obtain rfl : b = true := by rw [← HE.out]; simp only [isNone, beq_iff_eq]; omega
  go_wp2
  go_ret
  exact ⟨rfl, HB2.out⟩

end Go.Proofs.Qxb6615584a
