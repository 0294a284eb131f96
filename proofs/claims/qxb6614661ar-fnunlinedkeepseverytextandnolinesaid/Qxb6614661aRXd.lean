import Derived.Test.Qxb6614661aRXc
namespace Go.Proofs.Qxb6614661aR
open Go.RowKit

def PostN11 (w : World) (e : Ending) (w' : World) : Prop := ∃ T : Int, e = .returned (.int .i64 T) ∧ Below w.heap.size w w' ∧ 0 ≤ T ∧ T ≤ 2097152

set_option maxRecDepth 100000 in
set_option maxHeartbeats 4000000 in
theorem w11 (t : Int) (S : Sp) (w : World) (h0 : 0 ≤ t) (h1 : t ≤ 2097152) (hS : S.lies w) : Calls Try.prog 11 #[.int .i64 t, S.val] w (PostN11 w) := by
  have HS0 : Hid (∀ o, S.lies (w.alloc o)) := fun o => hS.below ((Below.refl _ _).alloc (Nat.le_refl _) o) (Nat.le_refl _)
  have HB0 : Hid (∀ o, Below w.heap.size w (w.alloc o)) := fun o => (Below.refl _ _).alloc (Nat.le_refl _) o
  clear hS
  obtain ⟨⟨pa, pn, pc⟩, P, ⟨ra, rn, rc⟩, rv, R, ⟨ua, un, uc⟩, uv, U, ⟨ga, gn, gc⟩, gv, G, ⟨xa, xn, xc⟩, xv, X, ⟨ya, yn, yc⟩, yv, Y⟩ := S
  unfold Sp.val
  dsimp only
  obtain ⟨w1, hw1⟩ : ∃ w1, w.alloc (Obj.cells #[.slice pa pn pc, .slice ra rn rc, .slice ua un uc, .slice ga gn gc, .slice xa xn xc, .slice ya yn yc] 28) = w1 := ⟨_, rfl⟩
  have HS : Hid (Sp.lies ⟨⟨pa, pn, pc⟩, P, ⟨ra, rn, rc⟩, rv, R, ⟨ua, un, uc⟩, uv, U, ⟨ga, gn, gc⟩, gv, G, ⟨xa, xn, xc⟩, xv, X, ⟨ya, yn, yc⟩, yv, Y⟩ w1) := hw1 ▸ HS0.out _
  have HB : Hid (Below w.heap.size w w1) := hw1 ▸ HB0.out _
  have hq : w1.heap[w.heap.size]? = some (Obj.cells #[.slice pa pn pc, .slice ra rn rc, .slice ua un uc, .slice ga gn gc, .slice xa xn xc, .slice ya yn yc] 28) := by rw [← hw1]; exact heap_alloc_new w _
  have q0 : w1.cell? ⟨w.heap.size, 0, none⟩ = some (.slice pa pn pc) := by rw [cell_of_row w1 _ 0 _ _ _ hq]; rfl
  have q1 : w1.cell? ⟨w.heap.size, 1, none⟩ = some (.slice ra rn rc) := by rw [cell_of_row w1 _ 1 _ _ _ hq]; rfl
  have q2 : w1.cell? ⟨w.heap.size, 2, none⟩ = some (.slice ua un uc) := by rw [cell_of_row w1 _ 2 _ _ _ hq]; rfl
  have q3 : w1.cell? ⟨w.heap.size, 3, none⟩ = some (.slice ga gn gc) := by rw [cell_of_row w1 _ 3 _ _ _ hq]; rfl
  have q4 : w1.cell? ⟨w.heap.size, 4, none⟩ = some (.slice xa xn xc) := by rw [cell_of_row w1 _ 4 _ _ _ hq]; rfl
  have q5 : w1.cell? ⟨w.heap.size, 5, none⟩ = some (.slice ya yn yc) := by rw [cell_of_row w1 _ 5 _ _ _ hq]; rfl
  have H1 : Hid (Words w1 ⟨pa, pn, pc⟩ P) := HS.out.1
  have H2 : Hid (Roles w1 ⟨ra, rn, rc⟩ rv R) := HS.out.2.1
  have H3 : Hid (Roles w1 ⟨ua, un, uc⟩ uv U) := HS.out.2.2.1
  have H4 : Hid (Grants w1 ⟨ga, gn, gc⟩ gv G) := HS.out.2.2.2.1
  have H5 : Hid (Grants w1 ⟨xa, xn, xc⟩ xv X) := HS.out.2.2.2.2.1
  have H6 : Hid (Grants w1 ⟨ya, yn, yc⟩ yv Y) := HS.out.2.2.2.2.2
  clear hq HS HS0 HB0
  by_cases cr : (1048576 : Int) < rn
  · go_enter Try.func11, Try.ntmps11
    go_wp2
    go_ret
    exact ⟨_, rfl, HB.out, by omega, by omega⟩
  by_cases cu : (1048576 : Int) < un
  · go_enter Try.func11, Try.ntmps11
    go_wp2
    go_ret
    exact ⟨_, rfl, HB.out, by omega, by omega⟩
  by_cases cg : (1048576 : Int) < gn
  · go_enter Try.func11, Try.ntmps11
    go_wp2
    go_ret
    exact ⟨_, rfl, HB.out, by omega, by omega⟩
  go_enter Try.func11, Try.ntmps11
  go_wp2_with fail
  refine (w34 t ⟨pa, pn, pc⟩ P w1 h0 h1 H1.out).mono ?_
  rintro e w2 ⟨Ta, rfl, rfl, Ta0, Ta1⟩
  go_wp2_with fail
  refine (w35 Ta _ w1 Ta0 Ta1 (by omega)).mono ?_
  rintro e w2 ⟨Tr, rfl, rfl, Tr0, Tr1⟩
  go_wp2
  go_loop [0, 5] (fun z i => ∃ (k : Nat) (T : Int), k ≤ rn ∧ i = .int .i64 k ∧ z = .int .i64 T ∧ 0 ≤ T ∧ T ≤ 2097152) (fun _ i => rn - (intOf i).toNat)
  case atStart => exact ⟨0, Tr, Nat.zero_le _, rfl, rfl, Tr0, Tr1⟩
  case round =>
    obtain ⟨k, zr, hk, rfl, rfl, zr0, zr1⟩ := hrel
    by_cases hlt : k < rn
    · by_cases hz : zr ≤ 1048576
      · rcases H2.out with h | ⟨b, of, ha, hc⟩
        · exact absurd h (by dsimp only; omega)
        obtain ⟨f1, _, f3, fw⟩ := hc k hlt
        dsimp only at ha
        subst ha
        obtain ⟨s, HSz⟩ : ∃ s, Hid (R.t k = s) := ⟨_, rfl⟩
        rw [HSz.out] at f1
        have FW := hid fw
        clear hc fw HSz
        go_wp2_with fail
        refine (w35 zr _ w1 zr0 zr1 (by omega)).mono ?_
        rintro e w2 ⟨Tb, rfl, rfl, Tb0, Tb1⟩
        go_wp2_with fail
        refine (w34 Tb _ _ w1 Tb0 Tb1 FW.out).mono ?_
        rintro e w2 ⟨Td, rfl, rfl, Td0, Td1⟩
        go_wp2
        go_round
        case rel => exact ⟨k + 1, Td, by omega, by go_num, by go_num, by omega, by omega⟩
        case measure => simp [intOf]; omega
      · skip
        go_wp2_with fail
        refine (w35 zr _ w1 zr0 zr1 (by omega)).mono ?_
        rintro e w2 ⟨Tu, rfl, rfl, Tu0, Tu1⟩
        go_wp2
        go_loop [0, 6] (fun z i => ∃ (k : Nat) (T : Int), k ≤ un ∧ i = .int .i64 k ∧ z = .int .i64 T ∧ 0 ≤ T ∧ T ≤ 2097152) (fun _ i => un - (intOf i).toNat)
        case atStart => exact ⟨0, Tu, Nat.zero_le _, rfl, rfl, Tu0, Tu1⟩
        case round =>
          obtain ⟨k, zu, hk, rfl, rfl, zu0, zu1⟩ := hrel
          by_cases hlt : k < un
          · by_cases hz : zu ≤ 1048576
            · rcases H3.out with h | ⟨b, of, ha, hc⟩
              · exact absurd h (by dsimp only; omega)
              obtain ⟨f1, _, f3, fw⟩ := hc k hlt
              dsimp only at ha
              subst ha
              obtain ⟨s, HSz⟩ : ∃ s, Hid (U.t k = s) := ⟨_, rfl⟩
              rw [HSz.out] at f1
              have FW := hid fw
              clear hc fw HSz
              go_wp2_with fail
              refine (w35 zu _ w1 zu0 zu1 (by omega)).mono ?_
              rintro e w2 ⟨Tb, rfl, rfl, Tb0, Tb1⟩
              go_wp2_with fail
              refine (w34 Tb _ _ w1 Tb0 Tb1 FW.out).mono ?_
              rintro e w2 ⟨Td, rfl, rfl, Td0, Td1⟩
              go_wp2
              go_round
              case rel => exact ⟨k + 1, Td, by omega, by go_num, by go_num, by omega, by omega⟩
              case measure => simp [intOf]; omega
            · skip
              go_wp2_with fail
              refine (w35 zu _ w1 zu0 zu1 (by omega)).mono ?_
              rintro e w2 ⟨Tg, rfl, rfl, Tg0, Tg1⟩
              go_wp2
              go_loop [0, 7] (fun z i => ∃ (k : Nat) (T : Int), k ≤ gn ∧ i = .int .i64 k ∧ z = .int .i64 T ∧ 0 ≤ T ∧ T ≤ 2097152) (fun _ i => gn - (intOf i).toNat)
              case atStart => exact ⟨0, Tg, Nat.zero_le _, rfl, rfl, Tg0, Tg1⟩
              case round =>
                obtain ⟨k, zg, hk, rfl, rfl, zg0, zg1⟩ := hrel
                by_cases hlt : k < gn
                · by_cases hz : zg ≤ 1048576
                  · rcases H4.out with h | ⟨b, of, ha, hc⟩
                    · exact absurd h (by dsimp only; omega)
                    obtain ⟨_, f1, _, f3, f4, _, fw⟩ := hc k hlt
                    dsimp only at ha
                    subst ha
                    obtain ⟨s, HSz⟩ : ∃ s, Hid (G.t1 k = s) := ⟨_, rfl⟩
                    rw [HSz.out] at f1
                    have FW := hid fw
                    obtain ⟨s2, HSz2⟩ : ∃ s, Hid (G.t2 k = s) := ⟨_, rfl⟩
                    rw [HSz2.out] at f4
                    clear hc fw HSz HSz2
                    go_wp2_with fail
                    refine (w35 zg _ w1 zg0 zg1 (by omega)).mono ?_
                    rintro e w2 ⟨Tb, rfl, rfl, Tb0, Tb1⟩
                    go_wp2_with fail
                    refine (w35 Tb _ w1 Tb0 Tb1 (by omega)).mono ?_
                    rintro e w2 ⟨Tc, rfl, rfl, Tc0, Tc1⟩
                    go_wp2_with fail
                    refine (w34 Tc _ _ w1 Tc0 Tc1 FW.out).mono ?_
                    rintro e w2 ⟨Td, rfl, rfl, Td0, Td1⟩
                    go_wp2
                    go_round
                    case rel => exact ⟨k + 1, Td, by omega, by go_num, by go_num, by omega, by omega⟩
                    case measure => simp [intOf]; omega
                  · skip
                    go_wp2_with fail
                    refine (w36 zg ⟨xa, xn, xc⟩ xv X w1 zg0 zg1 H5.out).mono ?_
                    rintro e w2 ⟨Tx, rfl, rfl, Tx0, Tx1⟩
                    go_wp2_with fail
                    refine (w36 Tx ⟨ya, yn, yc⟩ yv Y w1 Tx0 Tx1 H6.out).mono ?_
                    rintro e w2 ⟨Ty, rfl, rfl, Ty0, Ty1⟩
                    go_wp2
                    go_ret
                    exact ⟨Ty, rfl, HB.out, Ty0, Ty1⟩
                · skip
                  go_wp2_with fail
                  refine (w36 zg ⟨xa, xn, xc⟩ xv X w1 zg0 zg1 H5.out).mono ?_
                  rintro e w2 ⟨Tx, rfl, rfl, Tx0, Tx1⟩
                  go_wp2_with fail
                  refine (w36 Tx ⟨ya, yn, yc⟩ yv Y w1 Tx0 Tx1 H6.out).mono ?_
                  rintro e w2 ⟨Ty, rfl, rfl, Ty0, Ty1⟩
                  go_wp2
                  go_ret
                  exact ⟨Ty, rfl, HB.out, Ty0, Ty1⟩
          · skip
            go_wp2_with fail
            refine (w35 zu _ w1 zu0 zu1 (by omega)).mono ?_
            rintro e w2 ⟨Tg, rfl, rfl, Tg0, Tg1⟩
            go_wp2
            go_loop [0, 7] (fun z i => ∃ (k : Nat) (T : Int), k ≤ gn ∧ i = .int .i64 k ∧ z = .int .i64 T ∧ 0 ≤ T ∧ T ≤ 2097152) (fun _ i => gn - (intOf i).toNat)
            case atStart => exact ⟨0, Tg, Nat.zero_le _, rfl, rfl, Tg0, Tg1⟩
            case round =>
              obtain ⟨k, zg, hk, rfl, rfl, zg0, zg1⟩ := hrel
              by_cases hlt : k < gn
              · by_cases hz : zg ≤ 1048576
                · rcases H4.out with h | ⟨b, of, ha, hc⟩
                  · exact absurd h (by dsimp only; omega)
                  obtain ⟨_, f1, _, f3, f4, _, fw⟩ := hc k hlt
                  dsimp only at ha
                  subst ha
                  obtain ⟨s, HSz⟩ : ∃ s, Hid (G.t1 k = s) := ⟨_, rfl⟩
                  rw [HSz.out] at f1
                  have FW := hid fw
                  obtain ⟨s2, HSz2⟩ : ∃ s, Hid (G.t2 k = s) := ⟨_, rfl⟩
                  rw [HSz2.out] at f4
                  clear hc fw HSz HSz2
                  go_wp2_with fail
                  refine (w35 zg _ w1 zg0 zg1 (by omega)).mono ?_
                  rintro e w2 ⟨Tb, rfl, rfl, Tb0, Tb1⟩
                  go_wp2_with fail
                  refine (w35 Tb _ w1 Tb0 Tb1 (by omega)).mono ?_
                  rintro e w2 ⟨Tc, rfl, rfl, Tc0, Tc1⟩
                  go_wp2_with fail
                  refine (w34 Tc _ _ w1 Tc0 Tc1 FW.out).mono ?_
                  rintro e w2 ⟨Td, rfl, rfl, Td0, Td1⟩
                  go_wp2
                  go_round
                  case rel => exact ⟨k + 1, Td, by omega, by go_num, by go_num, by omega, by omega⟩
                  case measure => simp [intOf]; omega
                · skip
                  go_wp2_with fail
                  refine (w36 zg ⟨xa, xn, xc⟩ xv X w1 zg0 zg1 H5.out).mono ?_
                  rintro e w2 ⟨Tx, rfl, rfl, Tx0, Tx1⟩
                  go_wp2_with fail
                  refine (w36 Tx ⟨ya, yn, yc⟩ yv Y w1 Tx0 Tx1 H6.out).mono ?_
                  rintro e w2 ⟨Ty, rfl, rfl, Ty0, Ty1⟩
                  go_wp2
                  go_ret
                  exact ⟨Ty, rfl, HB.out, Ty0, Ty1⟩
              · skip
                go_wp2_with fail
                refine (w36 zg ⟨xa, xn, xc⟩ xv X w1 zg0 zg1 H5.out).mono ?_
                rintro e w2 ⟨Tx, rfl, rfl, Tx0, Tx1⟩
                go_wp2_with fail
                refine (w36 Tx ⟨ya, yn, yc⟩ yv Y w1 Tx0 Tx1 H6.out).mono ?_
                rintro e w2 ⟨Ty, rfl, rfl, Ty0, Ty1⟩
                go_wp2
                go_ret
                exact ⟨Ty, rfl, HB.out, Ty0, Ty1⟩
    · skip
      go_wp2_with fail
      refine (w35 zr _ w1 zr0 zr1 (by omega)).mono ?_
      rintro e w2 ⟨Tu, rfl, rfl, Tu0, Tu1⟩
      go_wp2
      go_loop [0, 6] (fun z i => ∃ (k : Nat) (T : Int), k ≤ un ∧ i = .int .i64 k ∧ z = .int .i64 T ∧ 0 ≤ T ∧ T ≤ 2097152) (fun _ i => un - (intOf i).toNat)
      case atStart => exact ⟨0, Tu, Nat.zero_le _, rfl, rfl, Tu0, Tu1⟩
      case round =>
        obtain ⟨k, zu, hk, rfl, rfl, zu0, zu1⟩ := hrel
        by_cases hlt : k < un
        · by_cases hz : zu ≤ 1048576
          · rcases H3.out with h | ⟨b, of, ha, hc⟩
            · exact absurd h (by dsimp only; omega)
            obtain ⟨f1, _, f3, fw⟩ := hc k hlt
            dsimp only at ha
            subst ha
            obtain ⟨s, HSz⟩ : ∃ s, Hid (U.t k = s) := ⟨_, rfl⟩
            rw [HSz.out] at f1
            have FW := hid fw
            clear hc fw HSz
            go_wp2_with fail
            refine (w35 zu _ w1 zu0 zu1 (by omega)).mono ?_
            rintro e w2 ⟨Tb, rfl, rfl, Tb0, Tb1⟩
            go_wp2_with fail
            refine (w34 Tb _ _ w1 Tb0 Tb1 FW.out).mono ?_
            rintro e w2 ⟨Td, rfl, rfl, Td0, Td1⟩
            go_wp2
            go_round
            case rel => exact ⟨k + 1, Td, by omega, by go_num, by go_num, by omega, by omega⟩
            case measure => simp [intOf]; omega
          · skip
            go_wp2_with fail
            refine (w35 zu _ w1 zu0 zu1 (by omega)).mono ?_
            rintro e w2 ⟨Tg, rfl, rfl, Tg0, Tg1⟩
            go_wp2
            go_loop [0, 7] (fun z i => ∃ (k : Nat) (T : Int), k ≤ gn ∧ i = .int .i64 k ∧ z = .int .i64 T ∧ 0 ≤ T ∧ T ≤ 2097152) (fun _ i => gn - (intOf i).toNat)
            case atStart => exact ⟨0, Tg, Nat.zero_le _, rfl, rfl, Tg0, Tg1⟩
            case round =>
              obtain ⟨k, zg, hk, rfl, rfl, zg0, zg1⟩ := hrel
              by_cases hlt : k < gn
              · by_cases hz : zg ≤ 1048576
                · rcases H4.out with h | ⟨b, of, ha, hc⟩
                  · exact absurd h (by dsimp only; omega)
                  obtain ⟨_, f1, _, f3, f4, _, fw⟩ := hc k hlt
                  dsimp only at ha
                  subst ha
                  obtain ⟨s, HSz⟩ : ∃ s, Hid (G.t1 k = s) := ⟨_, rfl⟩
                  rw [HSz.out] at f1
                  have FW := hid fw
                  obtain ⟨s2, HSz2⟩ : ∃ s, Hid (G.t2 k = s) := ⟨_, rfl⟩
                  rw [HSz2.out] at f4
                  clear hc fw HSz HSz2
                  go_wp2_with fail
                  refine (w35 zg _ w1 zg0 zg1 (by omega)).mono ?_
                  rintro e w2 ⟨Tb, rfl, rfl, Tb0, Tb1⟩
                  go_wp2_with fail
                  refine (w35 Tb _ w1 Tb0 Tb1 (by omega)).mono ?_
                  rintro e w2 ⟨Tc, rfl, rfl, Tc0, Tc1⟩
                  go_wp2_with fail
                  refine (w34 Tc _ _ w1 Tc0 Tc1 FW.out).mono ?_
                  rintro e w2 ⟨Td, rfl, rfl, Td0, Td1⟩
                  go_wp2
                  go_round
                  case rel => exact ⟨k + 1, Td, by omega, by go_num, by go_num, by omega, by omega⟩
                  case measure => simp [intOf]; omega
                · skip
                  go_wp2_with fail
                  refine (w36 zg ⟨xa, xn, xc⟩ xv X w1 zg0 zg1 H5.out).mono ?_
                  rintro e w2 ⟨Tx, rfl, rfl, Tx0, Tx1⟩
                  go_wp2_with fail
                  refine (w36 Tx ⟨ya, yn, yc⟩ yv Y w1 Tx0 Tx1 H6.out).mono ?_
                  rintro e w2 ⟨Ty, rfl, rfl, Ty0, Ty1⟩
                  go_wp2
                  go_ret
                  exact ⟨Ty, rfl, HB.out, Ty0, Ty1⟩
              · skip
                go_wp2_with fail
                refine (w36 zg ⟨xa, xn, xc⟩ xv X w1 zg0 zg1 H5.out).mono ?_
                rintro e w2 ⟨Tx, rfl, rfl, Tx0, Tx1⟩
                go_wp2_with fail
                refine (w36 Tx ⟨ya, yn, yc⟩ yv Y w1 Tx0 Tx1 H6.out).mono ?_
                rintro e w2 ⟨Ty, rfl, rfl, Ty0, Ty1⟩
                go_wp2
                go_ret
                exact ⟨Ty, rfl, HB.out, Ty0, Ty1⟩
        · skip
          go_wp2_with fail
          refine (w35 zu _ w1 zu0 zu1 (by omega)).mono ?_
          rintro e w2 ⟨Tg, rfl, rfl, Tg0, Tg1⟩
          go_wp2
          go_loop [0, 7] (fun z i => ∃ (k : Nat) (T : Int), k ≤ gn ∧ i = .int .i64 k ∧ z = .int .i64 T ∧ 0 ≤ T ∧ T ≤ 2097152) (fun _ i => gn - (intOf i).toNat)
          case atStart => exact ⟨0, Tg, Nat.zero_le _, rfl, rfl, Tg0, Tg1⟩
          case round =>
            obtain ⟨k, zg, hk, rfl, rfl, zg0, zg1⟩ := hrel
            by_cases hlt : k < gn
            · by_cases hz : zg ≤ 1048576
              · rcases H4.out with h | ⟨b, of, ha, hc⟩
                · exact absurd h (by dsimp only; omega)
                obtain ⟨_, f1, _, f3, f4, _, fw⟩ := hc k hlt
                dsimp only at ha
                subst ha
                obtain ⟨s, HSz⟩ : ∃ s, Hid (G.t1 k = s) := ⟨_, rfl⟩
                rw [HSz.out] at f1
                have FW := hid fw
                obtain ⟨s2, HSz2⟩ : ∃ s, Hid (G.t2 k = s) := ⟨_, rfl⟩
                rw [HSz2.out] at f4
                clear hc fw HSz HSz2
                go_wp2_with fail
                refine (w35 zg _ w1 zg0 zg1 (by omega)).mono ?_
                rintro e w2 ⟨Tb, rfl, rfl, Tb0, Tb1⟩
                go_wp2_with fail
                refine (w35 Tb _ w1 Tb0 Tb1 (by omega)).mono ?_
                rintro e w2 ⟨Tc, rfl, rfl, Tc0, Tc1⟩
                go_wp2_with fail
                refine (w34 Tc _ _ w1 Tc0 Tc1 FW.out).mono ?_
                rintro e w2 ⟨Td, rfl, rfl, Td0, Td1⟩
                go_wp2
                go_round
                case rel => exact ⟨k + 1, Td, by omega, by go_num, by go_num, by omega, by omega⟩
                case measure => simp [intOf]; omega
              · skip
                go_wp2_with fail
                refine (w36 zg ⟨xa, xn, xc⟩ xv X w1 zg0 zg1 H5.out).mono ?_
                rintro e w2 ⟨Tx, rfl, rfl, Tx0, Tx1⟩
                go_wp2_with fail
                refine (w36 Tx ⟨ya, yn, yc⟩ yv Y w1 Tx0 Tx1 H6.out).mono ?_
                rintro e w2 ⟨Ty, rfl, rfl, Ty0, Ty1⟩
                go_wp2
                go_ret
                exact ⟨Ty, rfl, HB.out, Ty0, Ty1⟩
            · skip
              go_wp2_with fail
              refine (w36 zg ⟨xa, xn, xc⟩ xv X w1 zg0 zg1 H5.out).mono ?_
              rintro e w2 ⟨Tx, rfl, rfl, Tx0, Tx1⟩
              go_wp2_with fail
              refine (w36 Tx ⟨ya, yn, yc⟩ yv Y w1 Tx0 Tx1 H6.out).mono ?_
              rintro e w2 ⟨Ty, rfl, rfl, Ty0, Ty1⟩
              go_wp2
              go_ret
              exact ⟨Ty, rfl, HB.out, Ty0, Ty1⟩

end Go.Proofs.Qxb6614661aR
