import Derived.Test.Qxb6614661aRXa
namespace Go.Proofs.Qxb6614661aR
open Go.RowKit

/-- what zzBytes answers: where it says yes, every list is small. -/
def Post10 (S : Sp) (w : World) (e : Ending) (w' : World) : Prop := ∃ v : Bool, e = .returned (.bool v) ∧ Below w.heap.size w w' ∧ (v = true → S.small)

theorem post10_no {S : Sp} {w w' : World} (h : Below w.heap.size w w') : Post10 S w (.returned (.bool false)) w' := ⟨false, rfl, h, fun h => by cases h⟩

set_option maxRecDepth 100000 in
set_option maxHeartbeats 8000000 in
theorem w10 (S : Sp) (w : World) (hS : S.lies w) : Calls Try.prog 10 #[S.val] w (Post10 S w) := by
  have HS0 : Hid (∀ o, S.lies (w.alloc o)) := fun o => hS.below ((Below.refl _ _).alloc (Nat.le_refl _) o) (Nat.le_refl _)
  have HB0 : Hid (∀ o, Below w.heap.size w (w.alloc o)) := fun o => (Below.refl _ _).alloc (Nat.le_refl _) o
  clear hS
  obtain ⟨⟨pa, pn, pc⟩, P, ⟨ra, rn, rc⟩, rv, R, ⟨ua, un, uc⟩, uv, U, ⟨ga, gn, gc⟩, gv, G, ⟨xa, xn, xc⟩, xv, X, ⟨ya, yn, yc⟩, yv, Y⟩ := S
  unfold Sp.val
  dsimp only
  obtain ⟨w1, hw1⟩ : ∃ w1, w.alloc (Obj.cells #[.slice pa pn pc, .slice ra rn rc, .slice ua un uc, .slice ga gn gc, .slice xa xn xc, .slice ya yn yc] 28) = w1 := ⟨_, rfl⟩
  have HS : Hid (Sp.lies ⟨⟨pa, pn, pc⟩, P, ⟨ra, rn, rc⟩, rv, R, ⟨ua, un, uc⟩, uv, U, ⟨ga, gn, gc⟩, gv, G, ⟨xa, xn, xc⟩, xv, X, ⟨ya, yn, yc⟩, yv, Y⟩ w1) := hw1 ▸ HS0.out _
  have HB : Hid (Below w.heap.size w w1) := hw1 ▸ HB0.out _
  have hq : w1.heap[w.heap.size]? = some (Obj.cells #[.slice pa pn pc, .slice ra rn rc, .slice ua un uc, .slice ga gn gc, .slice xa xn xc, .slice ya yn yc] 28) := by rw [← hw1]; exact heap_alloc_new w _
  have q0 : w1.cell? ⟨w.heap.size, 0, none⟩ = some (.slice pa pn pc) := by rw [cell_of_row w1 _ 0 _ _ _ hq]; rfl
  have q1 : w1.cell? ⟨w.heap.size, 1, none⟩ = some (.slice ra rn rc) := by rw [cell_of_row w1 _ 1 _ _ _ hq]; rfl
  have q2 : w1.cell? ⟨w.heap.size, 2, none⟩ = some (.slice ua un uc) := by rw [cell_of_row w1 _ 2 _ _ _ hq]; rfl
  have q3 : w1.cell? ⟨w.heap.size, 3, none⟩ = some (.slice ga gn gc) := by rw [cell_of_row w1 _ 3 _ _ _ hq]; rfl
  have q4 : w1.cell? ⟨w.heap.size, 4, none⟩ = some (.slice xa xn xc) := by rw [cell_of_row w1 _ 4 _ _ _ hq]; rfl
  have q5 : w1.cell? ⟨w.heap.size, 5, none⟩ = some (.slice ya yn yc) := by rw [cell_of_row w1 _ 5 _ _ _ hq]; rfl
  have H1 : Hid (Words w1 ⟨pa, pn, pc⟩ P) := HS.out.1
  have H2 : Hid (Roles w1 ⟨ra, rn, rc⟩ rv R) := HS.out.2.1
  have H3 : Hid (Roles w1 ⟨ua, un, uc⟩ uv U) := HS.out.2.2.1
  have H4 : Hid (Grants w1 ⟨ga, gn, gc⟩ gv G) := HS.out.2.2.2.1
  have H5 : Hid (Grants w1 ⟨xa, xn, xc⟩ xv X) := HS.out.2.2.2.2.1
  have H6 : Hid (Grants w1 ⟨ya, yn, yc⟩ yv Y) := HS.out.2.2.2.2.2
  clear hq HS HS0 HB0
  by_cases p1 : (1048576 : Int) < pn
  · go_enter Try.func10, Try.ntmps10
    go_wp2
    go_ret
    exact post10_no HB.out
  go_enter Try.func10, Try.ntmps10
  go_wp2
  go_loop [3, 4] (fun z i => ∃ (k : Nat) (T : Int), k ≤ pn ∧ i = .int .i64 k ∧ z = .int .i64 T ∧ 0 ≤ T ∧ T ≤ 1048576) (fun _ i => pn - (intOf i).toNat)
  case atStart => exact ⟨0, _, Nat.zero_le _, rfl, rfl, by omega, by omega⟩
  case round => as_aux_lemma =>
    obtain ⟨mp, Tp, lp, rfl, rfl, Tp0, Tp1⟩ := hrel
    by_cases ltp : mp < pn
    · rcases H1.out with h | ⟨b, of, ha, hc⟩
      · exact absurd h (by dsimp only; omega)
      obtain ⟨f1, f2⟩ := hc mp ltp
      dsimp only at ha
      subst ha
      obtain ⟨s, HSz⟩ : ∃ s, Hid (P.t mp = s) := ⟨_, rfl⟩
      rw [HSz.out] at f1
      clear hc f2 HSz
      by_cases hs1 : (1048576 : Int) < (s.size : Int)
      · as_aux_lemma =>
          go_wp2
          go_ret
          exact post10_no HB.out
      by_cases hs2 : (1048576 : Int) < Tp + (s.size : Int)
      · as_aux_lemma =>
          go_wp2
          go_ret
          exact post10_no HB.out
      go_wp2
      go_round
      case rel => exact ⟨mp + 1, Tp + s.size, by omega, by go_num, by go_num, by omega, by omega⟩
      case measure => simp [intOf]; omega
    by_cases r1 : (1048576 : Int) < (rn : Int)
    · as_aux_lemma =>
        go_wp2
        go_ret
        exact post10_no HB.out
    by_cases r2 : (1048576 : Int) < Tp + (rn : Int)
    · as_aux_lemma =>
        go_wp2
        go_ret
        exact post10_no HB.out
    go_wp2
    go_loop [3, 5] (fun z i => ∃ (k : Nat) (T : Int), k ≤ rn ∧ i = .int .i64 k ∧ z = .int .i64 T ∧ 0 ≤ T ∧ T ≤ 1048576 ∧ Hid (∀ j, j < k → (rv j).n ≤ 1048576)) (fun _ i => rn - (intOf i).toNat)
    case atStart => exact ⟨0, _, Nat.zero_le _, rfl, rfl, by omega, by omega, fun j hj => by omega⟩
    case round => as_aux_lemma =>
      obtain ⟨kr, Tr, lr, rfl, rfl, Tr0, Tr1, Sr⟩ := hrel
      by_cases ltr : kr < rn
      · rcases H2.out with h | ⟨b, of, ha, hc⟩
        · exact absurd h (by dsimp only; omega)
        obtain ⟨f1, _, f3, fw⟩ := hc kr ltr
        dsimp only at ha
        subst ha
        obtain ⟨s, HSz⟩ : ∃ s, Hid (R.t kr = s) := ⟨_, rfl⟩
        rw [HSz.out] at f1
        obtain ⟨v, HV⟩ : ∃ v, Hid (rv kr = v) := ⟨_, rfl⟩
        rw [HV.out] at f3 fw
        obtain ⟨va, vn, vc⟩ := v
        dsimp only at f3
        have FW := hid fw
        clear hc fw HSz
        by_cases hs1 : (1048576 : Int) < (s.size : Int)
        · as_aux_lemma =>
            go_wp2
            go_ret
            exact post10_no HB.out
        by_cases hs2 : (1048576 : Int) < Tr + (s.size : Int)
        · as_aux_lemma =>
            go_wp2
            go_ret
            exact post10_no HB.out
        by_cases v1 : (1048576 : Int) < (vn : Int)
        · as_aux_lemma =>
            go_wp2
            go_ret
            exact post10_no HB.out
        by_cases v2 : (1048576 : Int) < Tr + (s.size : Int) + (vn : Int)
        · as_aux_lemma =>
            go_wp2
            go_ret
            exact post10_no HB.out
        go_wp2
        go_loop [3, 6] (fun z i => ∃ (k : Nat) (T : Int), k ≤ vn ∧ i = .int .i64 k ∧ z = .int .i64 T ∧ 0 ≤ T ∧ T ≤ 1048576) (fun _ i => vn - (intOf i).toNat)
        case atStart => exact ⟨0, _, Nat.zero_le _, rfl, rfl, by omega, by omega⟩
        case round => as_aux_lemma =>
          obtain ⟨m, Tm, lm, rfl, rfl, Tm0, Tm1⟩ := hrel
          by_cases ltm : m < vn
          · rcases FW.out with h | ⟨b2, of2, ha, hc⟩
            · exact absurd h (by dsimp only; omega)
            obtain ⟨e1, _⟩ := hc m ltm
            dsimp only at ha
            subst ha
            obtain ⟨s3, HSz3⟩ : ∃ s, Hid ((R.c kr).t m = s) := ⟨_, rfl⟩
            rw [HSz3.out] at e1
            clear hc HSz3
            by_cases z1 : (1048576 : Int) < (s3.size : Int)
            · as_aux_lemma =>
                go_wp2
                go_ret
                exact post10_no HB.out
            by_cases z2 : (1048576 : Int) < Tm + (s3.size : Int)
            · as_aux_lemma =>
                go_wp2
                go_ret
                exact post10_no HB.out
            go_wp2
            go_round
            case rel => exact ⟨m + 1, Tm + s3.size, by omega, by go_num, by go_num, by omega, by omega⟩
            case measure => simp [intOf]; omega
          go_wp2
          go_round
          case rel =>
            refine ⟨kr + 1, Tm, by omega, by go_num, by go_num, by omega, by omega, fun j hj => ?_⟩
            by_cases hjk : j = kr
            · subst hjk; rw [HV.out]; show vn ≤ 1048576; omega
            · exact Sr.out j (by omega)
          case measure => simp [intOf]; omega
      by_cases u1 : (1048576 : Int) < (un : Int)
      · as_aux_lemma =>
          go_wp2
          go_ret
          exact post10_no HB.out
      by_cases u2 : (1048576 : Int) < Tr + (un : Int)
      · as_aux_lemma =>
          go_wp2
          go_ret
          exact post10_no HB.out
      go_wp2
      go_loop [3, 7] (fun z i => ∃ (k : Nat) (T : Int), k ≤ un ∧ i = .int .i64 k ∧ z = .int .i64 T ∧ 0 ≤ T ∧ T ≤ 1048576 ∧ Hid (∀ j, j < k → (uv j).n ≤ 1048576)) (fun _ i => un - (intOf i).toNat)
      case atStart => exact ⟨0, _, Nat.zero_le _, rfl, rfl, by omega, by omega, fun j hj => by omega⟩
      case round => as_aux_lemma =>
        obtain ⟨ku, Tu, lu, rfl, rfl, Tu0, Tu1, Su⟩ := hrel
        by_cases ltu : ku < un
        · rcases H3.out with h | ⟨b, of, ha, hc⟩
          · exact absurd h (by dsimp only; omega)
          obtain ⟨f1, _, f3, fw⟩ := hc ku ltu
          dsimp only at ha
          subst ha
          obtain ⟨s, HSz⟩ : ∃ s, Hid (U.t ku = s) := ⟨_, rfl⟩
          rw [HSz.out] at f1
          obtain ⟨v, HV⟩ : ∃ v, Hid (uv ku = v) := ⟨_, rfl⟩
          rw [HV.out] at f3 fw
          obtain ⟨va, vn, vc⟩ := v
          dsimp only at f3
          have FW := hid fw
          clear hc fw HSz
          by_cases hs1 : (1048576 : Int) < (s.size : Int)
          · as_aux_lemma =>
              go_wp2
              go_ret
              exact post10_no HB.out
          by_cases hs2 : (1048576 : Int) < Tu + (s.size : Int)
          · as_aux_lemma =>
              go_wp2
              go_ret
              exact post10_no HB.out
          by_cases v1 : (1048576 : Int) < (vn : Int)
          · as_aux_lemma =>
              go_wp2
              go_ret
              exact post10_no HB.out
          by_cases v2 : (1048576 : Int) < Tu + (s.size : Int) + (vn : Int)
          · as_aux_lemma =>
              go_wp2
              go_ret
              exact post10_no HB.out
          go_wp2
          go_loop [3, 8] (fun z i => ∃ (k : Nat) (T : Int), k ≤ vn ∧ i = .int .i64 k ∧ z = .int .i64 T ∧ 0 ≤ T ∧ T ≤ 1048576) (fun _ i => vn - (intOf i).toNat)
          case atStart => exact ⟨0, _, Nat.zero_le _, rfl, rfl, by omega, by omega⟩
          case round => as_aux_lemma =>
            obtain ⟨m, Tm, lm, rfl, rfl, Tm0, Tm1⟩ := hrel
            by_cases ltm : m < vn
            · rcases FW.out with h | ⟨b2, of2, ha, hc⟩
              · exact absurd h (by dsimp only; omega)
              obtain ⟨e1, _⟩ := hc m ltm
              dsimp only at ha
              subst ha
              obtain ⟨s3, HSz3⟩ : ∃ s, Hid ((U.c ku).t m = s) := ⟨_, rfl⟩
              rw [HSz3.out] at e1
              clear hc HSz3
              by_cases z1 : (1048576 : Int) < (s3.size : Int)
              · as_aux_lemma =>
                  go_wp2
                  go_ret
                  exact post10_no HB.out
              by_cases z2 : (1048576 : Int) < Tm + (s3.size : Int)
              · as_aux_lemma =>
                  go_wp2
                  go_ret
                  exact post10_no HB.out
              go_wp2
              go_round
              case rel => exact ⟨m + 1, Tm + s3.size, by omega, by go_num, by go_num, by omega, by omega⟩
              case measure => simp [intOf]; omega
            go_wp2
            go_round
            case rel =>
              refine ⟨ku + 1, Tm, by omega, by go_num, by go_num, by omega, by omega, fun j hj => ?_⟩
              by_cases hjk : j = ku
              · subst hjk; rw [HV.out]; show vn ≤ 1048576; omega
              · exact Su.out j (by omega)
            case measure => simp [intOf]; omega
        by_cases g1 : (1048576 : Int) < (gn : Int)
        · as_aux_lemma =>
            go_wp2
            go_ret
            exact post10_no HB.out
        by_cases g2 : (1048576 : Int) < Tu + (gn : Int)
        · as_aux_lemma =>
            go_wp2
            go_ret
            exact post10_no HB.out
        go_wp2
        go_loop [3, 9] (fun z i => ∃ (k : Nat) (T : Int), k ≤ gn ∧ i = .int .i64 k ∧ z = .int .i64 T ∧ 0 ≤ T ∧ T ≤ 1048576 ∧ Hid (∀ j, j < k → (gv j).n ≤ 1048576)) (fun _ i => gn - (intOf i).toNat)
        case atStart => exact ⟨0, _, Nat.zero_le _, rfl, rfl, by omega, by omega, fun j hj => by omega⟩
        case round => as_aux_lemma =>
          obtain ⟨kg, Tg, lg, rfl, rfl, Tg0, Tg1, Sg⟩ := hrel
          by_cases ltg : kg < gn
          · rcases H4.out with h | ⟨b, of, ha, hc⟩
            · exact absurd h (by dsimp only; omega)
            obtain ⟨_, f1, _, f3, f4, _, fw⟩ := hc kg ltg
            dsimp only at ha
            subst ha
            obtain ⟨s, HSz⟩ : ∃ s, Hid (G.t1 kg = s) := ⟨_, rfl⟩
            rw [HSz.out] at f1
            obtain ⟨v, HV⟩ : ∃ v, Hid (gv kg = v) := ⟨_, rfl⟩
            rw [HV.out] at f3 fw
            obtain ⟨va, vn, vc⟩ := v
            dsimp only at f3
            have FW := hid fw
            obtain ⟨s2, HSz2⟩ : ∃ s, Hid (G.t2 kg = s) := ⟨_, rfl⟩
            rw [HSz2.out] at f4
            clear hc fw HSz HSz2
            by_cases hs1 : (1048576 : Int) < (s.size : Int)
            · as_aux_lemma =>
                go_wp2
                go_ret
                exact post10_no HB.out
            by_cases hs2 : (1048576 : Int) < Tg + (s.size : Int)
            · as_aux_lemma =>
                go_wp2
                go_ret
                exact post10_no HB.out
            by_cases v1 : (1048576 : Int) < (vn : Int)
            · as_aux_lemma =>
                go_wp2
                go_ret
                exact post10_no HB.out
            by_cases v2 : (1048576 : Int) < Tg + (s.size : Int) + (vn : Int)
            · as_aux_lemma =>
                go_wp2
                go_ret
                exact post10_no HB.out
            go_wp2
            go_loop [3, 10] (fun z i => ∃ (k : Nat) (T : Int), k ≤ vn ∧ i = .int .i64 k ∧ z = .int .i64 T ∧ 0 ≤ T ∧ T ≤ 1048576) (fun _ i => vn - (intOf i).toNat)
            case atStart => exact ⟨0, _, Nat.zero_le _, rfl, rfl, by omega, by omega⟩
            case round => as_aux_lemma =>
              obtain ⟨m, Tm, lm, rfl, rfl, Tm0, Tm1⟩ := hrel
              by_cases ltm : m < vn
              · rcases FW.out with h | ⟨b2, of2, ha, hc⟩
                · exact absurd h (by dsimp only; omega)
                obtain ⟨e1, _⟩ := hc m ltm
                dsimp only at ha
                subst ha
                obtain ⟨s3, HSz3⟩ : ∃ s, Hid ((G.c kg).t m = s) := ⟨_, rfl⟩
                rw [HSz3.out] at e1
                clear hc HSz3
                by_cases z1 : (1048576 : Int) < (s3.size : Int)
                · as_aux_lemma =>
                    go_wp2
                    go_ret
                    exact post10_no HB.out
                by_cases z2 : (1048576 : Int) < Tm + (s3.size : Int)
                · as_aux_lemma =>
                    go_wp2
                    go_ret
                    exact post10_no HB.out
                go_wp2
                go_round
                case rel => exact ⟨m + 1, Tm + s3.size, by omega, by go_num, by go_num, by omega, by omega⟩
                case measure => simp [intOf]; omega
              by_cases y1 : (1048576 : Int) < (s2.size : Int)
              · as_aux_lemma =>
                  go_wp2
                  go_ret
                  exact post10_no HB.out
              by_cases y2 : (1048576 : Int) < Tm + (s2.size : Int)
              · as_aux_lemma =>
                  go_wp2
                  go_ret
                  exact post10_no HB.out
              go_wp2
              go_round
              case rel =>
                refine ⟨kg + 1, Tm + s2.size, by omega, by go_num, by go_num, by omega, by omega, fun j hj => ?_⟩
                by_cases hjk : j = kg
                · subst hjk; rw [HV.out]; show vn ≤ 1048576; omega
                · exact Sg.out j (by omega)
              case measure => simp [intOf]; omega
          by_cases x1 : (1048576 : Int) < (xn : Int)
          · as_aux_lemma =>
              go_wp2
              go_ret
              exact post10_no HB.out
          by_cases x2 : (1048576 : Int) < Tg + (xn : Int)
          · as_aux_lemma =>
              go_wp2
              go_ret
              exact post10_no HB.out
          go_wp2
          go_loop [3, 11] (fun z i => ∃ (k : Nat) (T : Int), k ≤ xn ∧ i = .int .i64 k ∧ z = .int .i64 T ∧ 0 ≤ T ∧ T ≤ 1048576 ∧ Hid (∀ j, j < k → (xv j).n ≤ 1048576)) (fun _ i => xn - (intOf i).toNat)
          case atStart => exact ⟨0, _, Nat.zero_le _, rfl, rfl, by omega, by omega, fun j hj => by omega⟩
          case round => as_aux_lemma =>
            obtain ⟨kx, Tx, lx, rfl, rfl, Tx0, Tx1, Sx⟩ := hrel
            by_cases ltx : kx < xn
            · rcases H5.out with h | ⟨b, of, ha, hc⟩
              · exact absurd h (by dsimp only; omega)
              obtain ⟨_, f1, _, f3, f4, _, fw⟩ := hc kx ltx
              dsimp only at ha
              subst ha
              obtain ⟨s, HSz⟩ : ∃ s, Hid (X.t1 kx = s) := ⟨_, rfl⟩
              rw [HSz.out] at f1
              obtain ⟨v, HV⟩ : ∃ v, Hid (xv kx = v) := ⟨_, rfl⟩
              rw [HV.out] at f3 fw
              obtain ⟨va, vn, vc⟩ := v
              dsimp only at f3
              have FW := hid fw
              obtain ⟨s2, HSz2⟩ : ∃ s, Hid (X.t2 kx = s) := ⟨_, rfl⟩
              rw [HSz2.out] at f4
              clear hc fw HSz HSz2
              by_cases hs1 : (1048576 : Int) < (s.size : Int)
              · as_aux_lemma =>
                  go_wp2
                  go_ret
                  exact post10_no HB.out
              by_cases hs2 : (1048576 : Int) < Tx + (s.size : Int)
              · as_aux_lemma =>
                  go_wp2
                  go_ret
                  exact post10_no HB.out
              by_cases v1 : (1048576 : Int) < (vn : Int)
              · as_aux_lemma =>
                  go_wp2
                  go_ret
                  exact post10_no HB.out
              by_cases v2 : (1048576 : Int) < Tx + (s.size : Int) + (vn : Int)
              · as_aux_lemma =>
                  go_wp2
                  go_ret
                  exact post10_no HB.out
              go_wp2
              go_loop [3, 12] (fun z i => ∃ (k : Nat) (T : Int), k ≤ vn ∧ i = .int .i64 k ∧ z = .int .i64 T ∧ 0 ≤ T ∧ T ≤ 1048576) (fun _ i => vn - (intOf i).toNat)
              case atStart => exact ⟨0, _, Nat.zero_le _, rfl, rfl, by omega, by omega⟩
              case round => as_aux_lemma =>
                obtain ⟨m, Tm, lm, rfl, rfl, Tm0, Tm1⟩ := hrel
                by_cases ltm : m < vn
                · rcases FW.out with h | ⟨b2, of2, ha, hc⟩
                  · exact absurd h (by dsimp only; omega)
                  obtain ⟨e1, _⟩ := hc m ltm
                  dsimp only at ha
                  subst ha
                  obtain ⟨s3, HSz3⟩ : ∃ s, Hid ((X.c kx).t m = s) := ⟨_, rfl⟩
                  rw [HSz3.out] at e1
                  clear hc HSz3
                  by_cases z1 : (1048576 : Int) < (s3.size : Int)
                  · as_aux_lemma =>
                      go_wp2
                      go_ret
                      exact post10_no HB.out
                  by_cases z2 : (1048576 : Int) < Tm + (s3.size : Int)
                  · as_aux_lemma =>
                      go_wp2
                      go_ret
                      exact post10_no HB.out
                  go_wp2
                  go_round
                  case rel => exact ⟨m + 1, Tm + s3.size, by omega, by go_num, by go_num, by omega, by omega⟩
                  case measure => simp [intOf]; omega
                by_cases y1 : (1048576 : Int) < (s2.size : Int)
                · as_aux_lemma =>
                    go_wp2
                    go_ret
                    exact post10_no HB.out
                by_cases y2 : (1048576 : Int) < Tm + (s2.size : Int)
                · as_aux_lemma =>
                    go_wp2
                    go_ret
                    exact post10_no HB.out
                go_wp2
                go_round
                case rel =>
                  refine ⟨kx + 1, Tm + s2.size, by omega, by go_num, by go_num, by omega, by omega, fun j hj => ?_⟩
                  by_cases hjk : j = kx
                  · subst hjk; rw [HV.out]; show vn ≤ 1048576; omega
                  · exact Sx.out j (by omega)
                case measure => simp [intOf]; omega
            by_cases y1 : (1048576 : Int) < (yn : Int)
            · as_aux_lemma =>
                go_wp2
                go_ret
                exact post10_no HB.out
            by_cases y2 : (1048576 : Int) < Tx + (yn : Int)
            · as_aux_lemma =>
                go_wp2
                go_ret
                exact post10_no HB.out
            go_wp2
            go_loop [3, 13] (fun z i => ∃ (k : Nat) (T : Int), k ≤ yn ∧ i = .int .i64 k ∧ z = .int .i64 T ∧ 0 ≤ T ∧ T ≤ 1048576 ∧ Hid (∀ j, j < k → (yv j).n ≤ 1048576)) (fun _ i => yn - (intOf i).toNat)
            case atStart => exact ⟨0, _, Nat.zero_le _, rfl, rfl, by omega, by omega, fun j hj => by omega⟩
            case round => as_aux_lemma =>
              obtain ⟨ky, Ty, ly, rfl, rfl, Ty0, Ty1, Sy⟩ := hrel
              by_cases lty : ky < yn
              · rcases H6.out with h | ⟨b, of, ha, hc⟩
                · exact absurd h (by dsimp only; omega)
                obtain ⟨_, f1, _, f3, f4, _, fw⟩ := hc ky lty
                dsimp only at ha
                subst ha
                obtain ⟨s, HSz⟩ : ∃ s, Hid (Y.t1 ky = s) := ⟨_, rfl⟩
                rw [HSz.out] at f1
                obtain ⟨v, HV⟩ : ∃ v, Hid (yv ky = v) := ⟨_, rfl⟩
                rw [HV.out] at f3 fw
                obtain ⟨va, vn, vc⟩ := v
                dsimp only at f3
                have FW := hid fw
                obtain ⟨s2, HSz2⟩ : ∃ s, Hid (Y.t2 ky = s) := ⟨_, rfl⟩
                rw [HSz2.out] at f4
                clear hc fw HSz HSz2
                by_cases hs1 : (1048576 : Int) < (s.size : Int)
                · as_aux_lemma =>
                    go_wp2
                    go_ret
                    exact post10_no HB.out
                by_cases hs2 : (1048576 : Int) < Ty + (s.size : Int)
                · as_aux_lemma =>
                    go_wp2
                    go_ret
                    exact post10_no HB.out
                by_cases v1 : (1048576 : Int) < (vn : Int)
                · as_aux_lemma =>
                    go_wp2
                    go_ret
                    exact post10_no HB.out
                by_cases v2 : (1048576 : Int) < Ty + (s.size : Int) + (vn : Int)
                · as_aux_lemma =>
                    go_wp2
                    go_ret
                    exact post10_no HB.out
                go_wp2
                go_loop [3, 14] (fun z i => ∃ (k : Nat) (T : Int), k ≤ vn ∧ i = .int .i64 k ∧ z = .int .i64 T ∧ 0 ≤ T ∧ T ≤ 1048576) (fun _ i => vn - (intOf i).toNat)
                case atStart => exact ⟨0, _, Nat.zero_le _, rfl, rfl, by omega, by omega⟩
                case round => as_aux_lemma =>
                  obtain ⟨m, Tm, lm, rfl, rfl, Tm0, Tm1⟩ := hrel
                  by_cases ltm : m < vn
                  · rcases FW.out with h | ⟨b2, of2, ha, hc⟩
                    · exact absurd h (by dsimp only; omega)
                    obtain ⟨e1, _⟩ := hc m ltm
                    dsimp only at ha
                    subst ha
                    obtain ⟨s3, HSz3⟩ : ∃ s, Hid ((Y.c ky).t m = s) := ⟨_, rfl⟩
                    rw [HSz3.out] at e1
                    clear hc HSz3
                    by_cases z1 : (1048576 : Int) < (s3.size : Int)
                    · as_aux_lemma =>
                        go_wp2
                        go_ret
                        exact post10_no HB.out
                    by_cases z2 : (1048576 : Int) < Tm + (s3.size : Int)
                    · as_aux_lemma =>
                        go_wp2
                        go_ret
                        exact post10_no HB.out
                    go_wp2
                    go_round
                    case rel => exact ⟨m + 1, Tm + s3.size, by omega, by go_num, by go_num, by omega, by omega⟩
                    case measure => simp [intOf]; omega
                  by_cases y1 : (1048576 : Int) < (s2.size : Int)
                  · as_aux_lemma =>
                      go_wp2
                      go_ret
                      exact post10_no HB.out
                  by_cases y2 : (1048576 : Int) < Tm + (s2.size : Int)
                  · as_aux_lemma =>
                      go_wp2
                      go_ret
                      exact post10_no HB.out
                  go_wp2
                  go_round
                  case rel =>
                    refine ⟨ky + 1, Tm + s2.size, by omega, by go_num, by go_num, by omega, by omega, fun j hj => ?_⟩
                    by_cases hjk : j = ky
                    · subst hjk; rw [HV.out]; show vn ≤ 1048576; omega
                    · exact Sy.out j (by omega)
                  case measure => simp [intOf]; omega
              go_wp2
              go_ret
              obtain rfl : kr = rn := by omega
              obtain rfl : ku = un := by omega
              obtain rfl : kg = gn := by omega
              obtain rfl : kx = xn := by omega
              obtain rfl : ky = yn := by omega
              exact ⟨true, rfl, HB.out, fun _ => ⟨by show pn ≤ _; omega, ⟨by show kr ≤ _; omega, Sr.out⟩, ⟨by show ku ≤ _; omega, Su.out⟩, ⟨by show kg ≤ _; omega, Sg.out⟩, ⟨by show kx ≤ _; omega, Sx.out⟩, ⟨by show ky ≤ _; omega, Sy.out⟩⟩⟩

end Go.Proofs.Qxb6614661aR
