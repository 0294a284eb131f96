import Derived.Test.Qxb6614661aRWe
namespace Go.Proofs.Qxb6614661aR
open Go.RowKit

theorem wraps_u16 : ∀ n : Int, 0 ≤ n → n < 2 ^ 16 → IntKind.u16.wrap n = n := by
  intro n h0 h1
  rw [IntKind.wrap_u16]
  omega

theorem or16 (x y : Int) (h0 : 0 ≤ x) (h1 : x < 256) (h2 : 0 ≤ y) (h3 : y < 256) : bits .or .u16 x (y * 256) = y * 256 + x := by
  have hj := bits_join .u16 16 (by decide) wraps_u16 8 (y * 256) x (by omega) (by omega) (by omega) (by omega) (by omega) (by omega)
  rw [← hj, u16_or x (y * 256) (by omega) (by omega) (by omega) (by omega), u16_or (y * 256) x (by omega) (by omega) (by omega) (by omega), Nat.or_comm]

set_option maxHeartbeats 400000 in
theorem w66 (x y : Int) (w : World) (h1 : 55296 ≤ x) (h2 : x < 56320) (h3 : 56320 ≤ y) (h4 : y < 57344) :
    Calls Try.prog 66 #[.int .i32 x, .int .i32 y] w fun e w' => e = .returned (.int .i32 ((x - 55296) * 1024 + (y - 56320) + 65536)) ∧ w' = w := by
  have hj : bits .or .i32 ((x - 55296) * 1024) (y - 56320) = (x - 55296) * 1024 + (y - 56320) :=
    bits_join .i32 31 (by decide) wraps_i32 10 _ _ (by omega) (by omega) (by omega) (by omega) (by omega) (by omega)
  go_enter Try.func66, Try.ntmps66
  go_wp2
  go_ret
  exact ⟨rfl, rfl⟩

set_option maxHeartbeats 400000 in
theorem w89 (g o n c : Nat) (x y : Int) (w : World) (hn : 2 ≤ n) (h0 : 0 ≤ x) (h1 : x < 256) (h2 : 0 ≤ y) (h3 : y < 256) (hg : g < w.heap.size)
    (c0 : w.cell? ⟨g, o, none⟩ = some (.int .u8 x)) (c1 : w.cell? ⟨g, o + 1, none⟩ = some (.int .u8 y)) :
    Calls Try.prog 89 #[.agg #[], .slice (some ⟨g, o, none⟩) n c] w fun e w' => e = .returned (.int .u16 (x * 256 + y)) ∧ w' = (w.alloc (.cells #[] 112)).drew := by
  have hor := or16 y x h2 h3 h0 h1
  go_enter Try.func89, Try.ntmps89
  go_wp2
  go_region
  go_wp2
  go_ret
  exact ⟨rfl, rfl⟩

set_option maxHeartbeats 400000 in
theorem w97 (g o n c : Nat) (x y : Int) (w : World) (hn : 2 ≤ n) (h0 : 0 ≤ x) (h1 : x < 256) (h2 : 0 ≤ y) (h3 : y < 256) (hg : g < w.heap.size)
    (c0 : w.cell? ⟨g, o, none⟩ = some (.int .u8 x)) (c1 : w.cell? ⟨g, o + 1, none⟩ = some (.int .u8 y)) :
    Calls Try.prog 97 #[.agg #[], .slice (some ⟨g, o, none⟩) n c] w fun e w' => e = .returned (.int .u16 (y * 256 + x)) ∧ w' = (w.alloc (.cells #[] 113)).drew := by
  have hor := or16 x y h0 h1 h2 h3
  go_enter Try.func97, Try.ntmps97
  go_wp2
  go_region
  go_wp2
  go_ret
  exact ⟨rfl, rfl⟩

theorem units_at (rs : List Nat) (m : Nat) (h : m < rs.length) : ∃ r, r ∈ rs ∧ rs.take (m + 1) = rs.take m ++ [r] ∧ (unitsL (rs.take m)).length + (units r).length ≤ (unitsL rs).length ∧
    ∀ j, j < (units r).length → (unitsL rs).getD ((unitsL (rs.take m)).length + j) 0 = (units r).getD j 0 := by
  have e : rs = rs.take m ++ (rs[m] :: rs.drop (m + 1)) := by rw [List.getElem_cons_drop, List.take_append_drop]
  have e3 : unitsL (rs[m] :: rs.drop (m + 1)) = units rs[m] ++ unitsL (rs.drop (m + 1)) := by unfold unitsL; rw [List.flatMap_cons]
  have e2 : unitsL rs = unitsL (rs.take m) ++ (units rs[m] ++ unitsL (rs.drop (m + 1))) := by
    have := congrArg unitsL e
    rw [unitsL_app, e3] at this
    exact this
  refine ⟨rs[m], List.getElem_mem h, List.take_succ_eq_append_getElem h, ?_, ?_⟩
  · rw [e2, List.length_append, List.length_append]; omega
  · intro j hj
    rw [e2]
    simp only [List.getD_eq_getElem?_getD]
    rw [List.getElem?_append_right (by omega), show (unitsL (rs.take m)).length + j - (unitsL (rs.take m)).length = j by omega, List.getElem?_append_left hj]

/-- the code points as cells -/
def i32s (rs : List Nat) : List Value := rs.map fun r => Value.int .i32 (Int.ofNat r)

theorem info21 : (Try.prog.info? 21).map (fun i => (i.zero, i.size, i.bytes)) = some (some (.int .i32 0), 1, 4) := by kernel_rfl

theorem len_take_le {α : Type} (l : List α) (m : Nat) (h : m ≤ l.length) : (l.take m).length = m := by simp; omega

theorem hidj {p : Prop} (h : p) : Hid p := h

theorem dec_step {B m : Nat} {r : Nat} {z : Int} {rs : List Nat} {u1 v' : Value} {w wr w1 : World} (ht : rs.take (m + 1) = rs.take m ++ [r]) (hz : (r : Int) = z) (hB : B ≤ wr.heap.size)
    (hown : wr.ownsRow B 21 1 u1 m (i32s (rs.take m))) (hbel : Below B w wr) (hown' : w1.ownsRow B 21 1 v' (m + 1) (i32s (rs.take m) ++ [.int .i32 z]))
    (hg : (wr.alloc (.cells #[.int .i32 z] 21)).grownBy w1 u1.ownBlock) : w1.ownsRow B 21 1 v' (m + 1) (i32s (rs.take (m + 1))) ∧ Below B w w1 := by
  constructor
  · rw [ht]
    have : i32s (rs.take m ++ [r]) = i32s (rs.take m) ++ [.int .i32 z] := by rw [← hz]; simp [i32s]
    rw [this]
    exact hown'
  · exact (hbel.alloc hB _).grown hg (by simp; omega) (fun k hk => (hown.lt k hk).1)

set_option maxRecDepth 100000 in
set_option maxHeartbeats 1000000 in
theorem w65 (B g c U : Nat) (v : Value) (rs : List Nat) (w : World) (hr : ∀ r ∈ rs, scalar r) (hU : (unitsL rs).length = U) (hm : rs.length ≤ 2097152) (hgB : g < B) (hB : B ≤ w.heap.size)
    (hrow : Row .u16 w g 0 (unitsL rs)) (hown : w.ownsRow B 21 1 v 0 []) :
    Calls Try.prog 65 #[.slice (some ⟨g, 0, none⟩) U c, v] w fun e w' => ∃ v', e = .returned v' ∧ w'.ownsRow B 21 1 v' rs.length (i32s rs) ∧ Below B w w' := by
  obtain ⟨i0, hi, hz0, hz1, hz2⟩ := info_parts info21
  have HR : Hid (∀ r ∈ rs, scalar r) := hr
  have HU : Hid ((unitsL rs).length = U) := hU
  have HROW : Hid (Row .u16 w g 0 (unitsL rs)) := hrow
  have hUl := unitsL_len rs
  rw [hU] at hUl
  have hUb : U ≤ 4194304 := by omega
  have HI : Hid (Try.prog.info? 21 = some i0) := hi
  have HZ0 : Hid (i0.zero = some (.int .i32 0)) := hz0
  have HZ1 : Hid (i0.size = 1) := hz1
  have HZ2 : Hid (i0.bytes = 4) := hz2
  have HO : Hid (w.ownsRow B 21 1 v 0 []) := hown
  clear hr hU hrow hUl hi hz0 hz1 hz2 hown
  go_enter Try.func65, Try.ntmps65
  go_wp2
  go_loopw [1, 5] (fun v i wr => ∃ m L : Nat, m ≤ rs.length ∧ i = .int .i64 L ∧ Hid ((unitsL (rs.take m)).length = L) ∧ L ≤ U ∧ Hid (wr.ownsRow B 21 1 v m (i32s (rs.take m))) ∧ Hid (Below B w wr)) (fun _ i _ => U - (intOf i).toNat)
  case atStart => exact ⟨0, 0, Nat.zero_le _, rfl, rfl, Nat.zero_le _, HO, Below.refl _ _⟩
  case round =>
    obtain ⟨m, L, hmr, rfl, HL, hLU, hown, hbel⟩ := hrel
    by_cases hlt : m < rs.length
    · obtain ⟨r, hrm, htk, hlen, hat⟩ := units_at rs m hlt
      rw [HL.out, HU.out] at hlen
      rw [HL.out] at hat
      have HT : Hid (rs.take (m + 1) = rs.take m ++ [r]) := htk
      have hsc := HR.out r hrm
      have hcell : ∀ j, j < (units r).length → wr.cell? ⟨g, L + j, none⟩ = some (.int .u16 ((units r).getD j 0)) := by
        intro j hj
        rw [hbel.out.cell (p := ⟨g, L + j, none⟩) hgB]
        have := HROW.out (L + j) (by rw [HU.out]; omega)
        rw [hat j hj, Nat.zero_add] at this
        exact this
      have hsz := hbel.out.size
      obtain ⟨z, HZ⟩ : ∃ z : Int, Hid ((r : Int) = z) := ⟨_, rfl⟩
      clear htk hat hrm
      by_cases hbig : r < 65536
      · have hu := units_small hbig
        have HLN : Hid ((unitsL (rs.take (m + 1))).length = L + 1) := by rw [HT.out, unitsL_snoc, hu, List.length_append, HL.out]; rfl
        rw [hu] at hlen hcell
        have c0 := hcell 0 (by simp)
        simp at c0 hlen
        rw [HZ.out] at c0
        have hLlt : L < U := by omega
        by_cases hlow : z < 55296
        · have hz : 0 ≤ z := by have := HZ.out; omega
          clear hcell hu hbig hsc
          go_wp2_with (first | (at_builtin; refine wpList_append_own _ rfl _ _ 120 rfl B 21 i0 (.int .i32 0) 1 4 Try.underlying120 HI.out HZ0.out HZ1.out HZ2.out rfl (by decide) _ _ _ rfl (by exact hown.out.alloc _) ⟨wr.heap.size, 0, none⟩ 1 1 [.int .i32 z] rfl rfl ?c1 ?c2 ?c3 ?c4 ?c5 ?_))
          case c1 => exact cell_one_new _ _ _
          case c2 => intro u hu; simp at hu; subst hu; rfl
          case c3 => unfold maxLen; omega
          case c4 => omega
          case c5 => simp; omega
          · intro v' w1 hown' hgrow _
            have R := dec_step HT.out HZ.out (by omega) hown.out hbel.out hown' hgrow
            have R1 := hidj R.1
            have R2 := hidj R.2
            clear hown' hgrow R hown hbel
            go_wp2
            go_roundw
            case rel => exact ⟨m + 1, L + 1, by omega, by go_num, HLN, by omega, R1, R2⟩
            case measure => simp [intOf]; omega
        · have hz : 57344 ≤ z := by have := HZ.out; rcases hsc with h | ⟨h, _⟩ <;> omega
          have hz2 : z < 65536 := by have := HZ.out; omega
          clear hcell hu hbig hsc hlow
          go_wp2_with (first | (at_builtin; refine wpList_append_own _ rfl _ _ 120 rfl B 21 i0 (.int .i32 0) 1 4 Try.underlying120 HI.out HZ0.out HZ1.out HZ2.out rfl (by decide) _ _ _ rfl (by exact hown.out.alloc _) ⟨wr.heap.size, 0, none⟩ 1 1 [.int .i32 z] rfl rfl ?c1 ?c2 ?c3 ?c4 ?c5 ?_))
          case c1 => exact cell_one_new _ _ _
          case c2 => intro u hu; simp at hu; subst hu; rfl
          case c3 => unfold maxLen; omega
          case c4 => omega
          case c5 => simp; omega
          · intro v' w1 hown' hgrow _
            have R := dec_step HT.out HZ.out (by omega) hown.out hbel.out hown' hgrow
            have R1 := hidj R.1
            have R2 := hidj R.2
            clear hown' hgrow R hown hbel
            go_wp2
            go_roundw
            case rel => exact ⟨m + 1, L + 1, by omega, by go_num, HLN, by omega, R1, R2⟩
            case measure => simp [intOf]; omega
      · have hu := units_big (r := r) (by omega)
        have HLN : Hid ((unitsL (rs.take (m + 1))).length = L + 2) := by rw [HT.out, unitsL_snoc, hu, List.length_append, HL.out]; rfl
        have hmax : r ≤ 1114111 := by rcases hsc with h | ⟨_, h⟩ <;> omega
        rw [hu] at hlen hcell
        have c0 := hcell 0 (by simp)
        have c1 := hcell 1 (by simp)
        simp at c0 c1 hlen
        obtain ⟨x1, HX1⟩ : ∃ x : Int, Hid (55296 + ((r : Int) - 65536) / 1024 = x) := ⟨_, rfl⟩
        obtain ⟨x2, HX2⟩ : ∃ x : Int, Hid (56320 + ((r : Int) - 65536) % 1024 = x) := ⟨_, rfl⟩
        rw [HX1.out] at c0
        rw [HX2.out] at c1
        have a1 : 55296 ≤ x1 := by have := HX1.out; omega
        have a2 : x1 < 56320 := by have := HX1.out; omega
        have a3 : 56320 ≤ x2 := by have := HX2.out; omega
        have a4 : x2 < 57344 := by have := HX2.out; omega
        have hLlt : L + 1 < U := by omega
        have hval : (x1 - 55296) * 1024 + (x2 - 56320) + 65536 = z := by have := HX1.out; have := HX2.out; have := HZ.out; omega
        have H66 := fun w => (w66 x1 x2 w a1 a2 a3 a4).mono (fun e w' h => (⟨h.1, h.2.symm⟩ : e = _ ∧ w = w'))
        rw [hval] at H66
        clear hcell hu hbig hsc hval hmax
        go_wp2_with (first | (at_builtin; refine wpList_append_own _ rfl _ _ 120 rfl B 21 i0 (.int .i32 0) 1 4 Try.underlying120 HI.out HZ0.out HZ1.out HZ2.out rfl (by decide) _ _ _ rfl (by exact hown.out.alloc _) ⟨wr.heap.size, 0, none⟩ 1 1 [.int .i32 z] rfl rfl ?c1 ?c2 ?c3 ?c4 ?c5 ?_) | (go_at_call 66; refine (H66 _).mono ?_; rintro e w' ⟨rfl, rfl⟩))
        case c1 => exact cell_one_new _ _ _
        case c2 => intro u hu; simp at hu; subst hu; rfl
        case c3 => unfold maxLen; omega
        case c4 => omega
        case c5 => simp; omega
        · intro v' w1 hown' hgrow _
          have R := dec_step HT.out HZ.out (by omega) hown.out hbel.out hown' hgrow
          have R1 := hidj R.1
          have R2 := hidj R.2
          clear hown' hgrow R hown hbel
          go_wp2
          go_roundw
          case rel => exact ⟨m + 1, L + 2, by omega, by go_num, HLN, by omega, R1, R2⟩
          case measure => simp [intOf]; omega
    · obtain rfl : m = rs.length := by omega
      have hL : L = U := by rw [← HL.out, ← HU.out, List.take_length]
      subst hL
      have HO2 := hidj hown.out
      rw [List.take_length] at HO2
      clear hown
      go_wp2
      go_ret
      exact ⟨_, rfl, HO2.out, hbel.out⟩

end Go.Proofs.Qxb6614661aR
