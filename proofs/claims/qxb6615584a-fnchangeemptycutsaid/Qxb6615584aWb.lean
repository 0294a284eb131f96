import Derived.Test.Qxb6615584aWa
import Derived.Below
namespace Go.Proofs.Qxb6615584a
open Go.RowKit

/-- whether a change with n1 + n2 names and n3 entries says nothing. -/
def isNone (n1 n2 n3 : Nat) : Bool := n1 + n2 + n3 == 0

def PostB (b : Bool) (w : World) (e : Ending) (w' : World) : Prop := e = .returned (.bool b) ∧ Below w.heap.size w w'

set_option maxRecDepth 100000 in
theorem w15 (a1 : Option Addr) (n1 c1 : Nat) (a2 : Option Addr) (n2 c2 : Nat) (r : Option Nat) (n3 : Nat) (r2 : Option Nat) (s : Int) (w : World)
    (h1 : n1 ≤ 4096) (h2 : n2 ≤ 4096) (h3 : n3 ≤ 4096) (hr : MapLen w r n3) :
    Calls Try.prog 15 #[.agg #[.slice a1 n1 c1, .slice a2 n2 c2, .map r, .map r2, .int .u64 s]] w (PostB (isNone n1 n2 n3) w) := by
  have HL : ∀ o, (Builtin.len_ #[23] 3 #[.map r]).run Try.prog (w.alloc o) = .ok (.int .i64 (n3 : Int)) (w.alloc o) := fun o => (hr.below ((Below.refl w.heap.size w).alloc (Nat.le_refl _) o) (Nat.le_refl _)).run23
  have HB : Hid (∀ o, Below w.heap.size w (w.alloc o)) := fun o => (Below.refl w.heap.size w).alloc (Nat.le_refl _) o
  clear hr
  by_cases hz : (n1 : Int) + n2 + n3 = 0
  · have HE : Hid (isNone n1 n2 n3 = true) := by
      show isNone n1 n2 n3 = true
      simp only [isNone, beq_iff_eq]; omega
    go_enter Try.func15, Try.ntmps15
    go_wp2
    go_ret
    exact ⟨by rw [HE.out]; rfl, HB.out _⟩
  · have HE : Hid (isNone n1 n2 n3 = false) := by
      show isNone n1 n2 n3 = false
      simp only [isNone, beq_eq_false_iff_ne]; omega
    have hz2 : ((n1 : Int) + n2 + n3 == 0) = false := by simpa using hz
    go_enter Try.func15, Try.ntmps15
    go_wp2
    go_ret
    exact ⟨by rw [HE.out]; rfl, HB.out _⟩

theorem w7 (a1 : Option Addr) (n1 c1 : Nat) (a2 : Option Addr) (n2 c2 : Nat) (r : Option Nat) (n3 : Nat) (r2 : Option Nat) (s : Int) (w : World)
    (h1 : n1 ≤ 4096) (h2 : n2 ≤ 4096) (h3 : n3 ≤ 4096) (hr : MapLen w r n3) :
    Calls Try.prog 7 #[.slice a1 n1 c1, .slice a2 n2 c2, .map r, .map r2, .int .u64 s] w (PostB (isNone n1 n2 n3) w) := by
  have HC := hid (w15 a1 n1 c1 a2 n2 c2 r n3 r2 s w h1 h2 h3 hr)
  clear hr h1 h2 h3
  go_enter Try.func7, Try.ntmps7
  go_wp2_with fail
  refine HC.out.mono ?_
  rintro e w1 ⟨rfl, hb⟩
  have HB := hid hb
  clear hb
  go_wp2
  go_ret
  exact ⟨rfl, HB.out⟩

/-- what zzChangeSizes answers: where it says yes, each of the three is small. -/
def Post6 (n1 n2 n3 : Nat) (w : World) (e : Ending) (w' : World) : Prop := ∃ v : Bool, e = .returned (.bool v) ∧ w = w' ∧ (v = true → n1 ≤ 4096 ∧ n2 ≤ 4096 ∧ n3 ≤ 4096)

set_option maxRecDepth 100000 in
theorem w6 (a1 : Option Addr) (n1 c1 : Nat) (a2 : Option Addr) (n2 c2 : Nat) (r : Option Nat) (n3 : Nat) (r2 : Option Nat) (n4 : Nat) (w : World)
    (hs1 : StrRow w a1 n1) (hs2 : StrRow w a2 n2) (hr : MapLen w r n3) (hr2 : MapLen w r2 n4) :
    Calls Try.prog 6 #[.slice a1 n1 c1, .slice a2 n2 c2, .map r, .map r2] w (Post6 n1 n2 n3 w) := by
  have H1 := hid hs1
  have H2 := hid hs2
  have HL3 : (Builtin.len_ #[23] 3 #[.map r]).run Try.prog w = .ok (.int .i64 (n3 : Int)) w := hr.run23
  have HL4 : (Builtin.len_ #[24] 3 #[.map r2]).run Try.prog w = .ok (.int .i64 (n4 : Int)) w := hr2.run24
  clear hs1 hs2 hr hr2
  by_cases h1 : n1 ≤ 4096
  case neg =>
    have : (4096 : Int) < n1 := by omega
    go_enter Try.func6, Try.ntmps6
    go_wp2
    go_ret
    exact ⟨false, rfl, rfl, fun h => by cases h⟩
  by_cases h2 : n2 ≤ 4096
  case neg =>
    have : ¬ (4096 : Int) < n1 := by omega
    have : (4096 : Int) < n2 := by omega
    go_enter Try.func6, Try.ntmps6
    go_wp2
    go_ret
    exact ⟨false, rfl, rfl, fun h => by cases h⟩
  by_cases h3 : n3 ≤ 4096
  case neg =>
    have : ¬ (4096 : Int) < n1 := by omega
    have : ¬ (4096 : Int) < n2 := by omega
    have : (4096 : Int) < n3 := by omega
    go_enter Try.func6, Try.ntmps6
    go_wp2
    go_ret
    exact ⟨false, rfl, rfl, fun h => by cases h⟩
  by_cases h4 : n4 ≤ 4096
  case neg =>
    have : ¬ (4096 : Int) < n1 := by omega
    have : ¬ (4096 : Int) < n2 := by omega
    have : ¬ (4096 : Int) < n3 := by omega
    have : (4096 : Int) < n4 := by omega
    go_enter Try.func6, Try.ntmps6
    go_wp2
    go_ret
    exact ⟨false, rfl, rfl, fun h => by cases h⟩
  have : ¬ (4096 : Int) < n1 := by omega
  have : ¬ (4096 : Int) < n2 := by omega
  have : ¬ (4096 : Int) < n3 := by omega
  have : ¬ (4096 : Int) < n4 := by omega
  go_enter Try.func6, Try.ntmps6
  go_wp2_with fail
  refine (w14 0 a1 n1 c1 w (by omega) (by omega) h1 H1.out).mono ?_
  rintro e w1 ⟨T, rfl, rfl, hT0, hT1⟩
  go_wp2_with fail
  refine (w14 T a2 n2 c2 w hT0 hT1 h2 H2.out).mono ?_
  rintro e w1 ⟨T2, rfl, rfl, hT20, hT21⟩
  go_wp2
  go_ret
  exact ⟨_, rfl, rfl, fun _ => ⟨h1, h2, h3⟩⟩
end Go.Proofs.Qxb6615584a
