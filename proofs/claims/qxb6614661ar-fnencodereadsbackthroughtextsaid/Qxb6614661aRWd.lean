import Derived.Test.Qxb6614661aRWc
import Derived.Deep.RegionWith
import Derived.Test.Qxb6614661aRPl3
namespace Go.Proofs.Qxb6614661aR
open Go.RowKit

/-- the bytes of a string as integers -/
def byteInts (s : ByteArray) : List Int := s.data.toList.map fun b => (b.toNat : Int)

/-- a new slice with the bytes l is handed back; nothing that was there has turned. -/
def Gives (l : List Int) (w : World) (e : Ending) (w' : World) : Prop :=
  ∃ g c, e = .returned (.slice (some ⟨g, 0, none⟩) l.length c) ∧ Row .u8 w' g 0 l ∧ w.heap.size ≤ g ∧ g < w'.heap.size ∧ Below w.heap.size w w'

theorem byteInts_length (s : ByteArray) : (byteInts s).length = s.size := by rw [size_toList]; simp [byteInts]

theorem row_bytes (w : World) (s : ByteArray) (cap : Nat) (e : TypeId) (fr : Nat × Nat) : Row .u8 (w.alloc (.cells (bytesRow s cap) e fr)) w.heap.size 0 (byteInts s) := by
  intro j hj
  have hj' : j < s.data.size := by simpa [byteInts] using hj
  rw [Nat.zero_add, World.cell?_alloc_mark, bytesRow_at s cap j hj']
  simp [byteInts, Array.getElem?_eq_getElem hj']

set_option maxHeartbeats 400000 in
theorem w58n (bom : Int) (s : ByteArray) (w : World) :
    Calls Try.prog 58 #[.agg #[.int .i64 bom, .nilIface], .string s] w (Gives (byteInts s) w) := by
  have hconv := fun w => run_bytes_of_string (P := Try.prog) w 9 43 5 s Try.underlying9 Try.underlying43 Try.underlying5
  go_enter Try.func58, Try.ntmps58
  go_wp2
  go_ret
  refine ⟨w.heap.size + 1, grownCap (w.alloc (Obj.cells #[Value.int IntKind.i64 bom, Value.nilIface] 109)) s.size 0 5, ?_, ?_, by omega, by simp, ?_⟩
  · rw [byteInts_length]; rfl
  · have := row_bytes (w.alloc (Obj.cells #[Value.int IntKind.i64 bom, Value.nilIface] 109)) s (grownCap (w.alloc (Obj.cells #[Value.int IntKind.i64 bom, Value.nilIface] 109)) s.size 0 5) 5 ((bytesRow s (grownCap (w.alloc (Obj.cells #[Value.int IntKind.i64 bom, Value.nilIface] 109)) s.size 0 5)).size,
          (bytesRow s (grownCap (w.alloc (Obj.cells #[Value.int IntKind.i64 bom, Value.nilIface] 109)) s.size 0 5)).size + 1)
    simpa using this.drew
  · exact (((Below.refl _ _).alloc (Nat.le_refl _) _).alloc (by simp) _).drew

/-- the code points laid by '[]rune(s)' -/
def runeRow (rs : List Nat) (cap : Nat) : Array Value := (rs.map fun r => Value.int .i32 (Int.ofNat r)).toArray ++ Array.replicate (cap - rs.length) (.int .i32 0)

theorem row_runes (w : World) (rs : List Nat) (cap : Nat) (e : TypeId) : Row .i32 (w.alloc (.cells (runeRow rs cap) e)) w.heap.size 0 (ints rs) := by
  intro j hj
  have hj' : j < rs.length := by simpa [ints] using hj
  rw [Nat.zero_add, World.cell?_alloc_mark]
  unfold runeRow
  rw [Array.getElem?_append_left (by simpa using hj')]
  simp [ints, List.getElem?_eq_getElem hj']

theorem conv_runes (s : ByteArray) (rs : List Nat) (hr : ∀ r ∈ rs, scalar r) (hs : s.data.toList = rs.flatMap encL) (hm : s.size ≤ 1048576) (w : World) :
    ∃ cap, (convert 9 120 (.string s)).run Try.prog w = .ok (.slice (some ⟨w.heap.size, 0, none⟩) rs.length cap) (w.drew.alloc (.cells (runeRow rs cap) 21)) := by
  have hl := flat_len rs
  rw [← hs, ← size_toList] at hl
  have := run_runes_of_string (P := Try.prog) w 9 120 21 s Try.underlying9 Try.underlying120 Try.underlying21 (by rw [runes_of s rs hr hs]; simp; omega)
  rw [runes_of s rs hr hs] at this
  rw [this]
  refine ⟨grownCap w rs.length 0 21, ?_⟩
  simp [runeRow]

theorem make43 (n : Nat) (h : n ≤ 16777216) (w : World) : (Instr.makeSlice 43 (.int .i64 (n : Int)) (.int .i64 (n : Int))).run Try.prog w =
    .ok (.slice (some ⟨w.heap.size, 0, none⟩) n n) (w.alloc (.cells (madeCells #[.int .u8 0] n) 5)) := by
  obtain ⟨i0, hi, hz0, hz1, hz2⟩ := info_parts info5
  have := run_make w (P := Try.prog) 43 5 i0 (.int .u8 0) Try.underlying43 hi hz0 .i64 .i64 n n (by omega) (by omega) (by rw [hz2]; omega) (by omega)
  rw [this, hz1]
  simp [Value.cells]

theorem snoc2 {w : World} {g L N : Nat} {e : TypeId} {zs : List Int} (hrow : Row .u8 w g 0 zs) (hown : Own w g e N) (hL : zs.length = L) (hlt : L + 1 < N) (x y : Int) :
    Row .u8 ((w.setCell ⟨g, L, none⟩ (.int .u8 x)).setCell ⟨g, L + 1, none⟩ (.int .u8 y)) g 0 (zs ++ [x, y]) := by
  have t1 := hrow.snoc hown (by omega) x
  have t2 := t1.snoc (hown.setCell _ _) (by rw [List.length_append]; simp; omega) y
  rw [List.length_append, hL, Nat.zero_add, Nat.zero_add, List.append_assoc] at t2
  exact t2

theorem methPB (w : World) : (method 263 112 (.agg #[]) "PutUint16").run Try.prog w = .ok (85, .agg #[]) w := by kernel_rfl
theorem methPL (w : World) : (method 263 113 (.agg #[]) "PutUint16").run Try.prog w = .ok (93, .agg #[]) w := by kernel_rfl

theorem size5 (w : World) : (sizeOf 5).run Try.prog w = .ok 1 w := by
  obtain ⟨i0, hi, hz0, hz1, hz2⟩ := info_parts info5
  simp [sizeOf, typeInfo, hi, hz1]

theorem elem43 : Try.prog.elem 43 = 5 := by kernel_rfl

theorem slice43_at (g o len cap l : Nat) (h : l ≤ len) (hc : l < cap) (w : World) :
    (Instr.slice 43 (.slice (some ⟨g, o, none⟩) len cap) (some (.int .i64 (l : Int))) none none).run Try.prog w = .ok (.slice (some ⟨g, o + l, none⟩) (len - l) (cap - l)) w := by
  rw [run_slice_l (P := Try.prog) w 43 (some ⟨g, o, none⟩) len cap (by rw [elem43]; exact Try.underlying43) .i64 l (by omega) (by omega), elem43, size5]
  simp [Result.andThen, sliced, Addr.add, show ¬ cap = l by omega]

set_option maxRecDepth 100000 in
set_option maxHeartbeats 400000 in
theorem w58b (bom : Int) (s : ByteArray) (rs : List Nat) (w : World) (hr : ∀ r ∈ rs, scalar r) (hs : s.data.toList = rs.flatMap encL) (hm : s.size ≤ 1048576) :
    Calls Try.prog 58 #[.agg #[.int .i64 bom, .iface 112 (.agg #[])], .string s] w (Gives (wideBytes true (unitsL rs)) w) := by
  have hl := flat_len rs
  rw [← hs, ← size_toList] at hl
  obtain ⟨cap, hconv⟩ := conv_runes s rs hr hs hm (w.alloc (.cells #[.int .i64 bom, .iface 112 (.agg #[])] 109))
  have HR : Hid (∀ r ∈ rs, scalar r) := hr
  have hU := unitsL_len rs
  obtain ⟨Z, HZ⟩ : ∃ Z, Hid (unitsL rs = Z) := ⟨_, rfl⟩
  have hrange := unitsL_range rs hr
  rw [HZ.out] at hU hrange ⊢
  have HRG : Hid (∀ u ∈ Z, 0 ≤ u ∧ u < 65536) := hrange
  clear hr hs hrange
  go_enter Try.func58, Try.ntmps58
  go_wp2_with fail
  refine (w61 (w.heap.size + 1) cap rs.length rs _ HR.out rfl (by omega) (by simp) (by simpa using (row_runes (w.alloc (.cells #[.int .i64 bom, .iface 112 (.agg #[])] 109)) rs cap 21).drew)).mono ?_
  rintro e w1 ⟨rfl, hown1, hrow1, hbel1⟩
  rw [HZ.out] at hown1 hrow1 ⊢
  obtain ⟨U, HUL⟩ : ∃ U, Hid (Z.length = U) := ⟨_, rfl⟩
  rw [HUL.out] at hU hown1 ⊢
  have hz1 := hbel1.size
  have hbox : w1.cell? ⟨w.heap.size, 1, none⟩ = some (.iface 112 (.agg #[])) := by
    rw [hbel1.cell (p := ⟨w.heap.size, 1, none⟩) (by simp; omega)]
    simp
  simp at hz1 hown1 hrow1
  have hmk := fun w => make43 (2 * U) (by omega) w
  rw [show ((2 * U : Nat) : Int) = 2 * (U : Int) by omega] at hmk
  have H0 : Hid (Below w.heap.size w w1) := (((Below.refl w.heap.size w).alloc (Nat.le_refl _) _).alloc (by simp) _).drew.trans (hbel1.mono (by simp; omega))
  have HROW : Hid (Row .u16 w1 (w.heap.size + 1 + 1) 0 Z) := hrow1
  clear hbel1 hrow1
  go_wp2_with fail
  go_loopw [23] (fun i wr => ∃ k : Nat, k ≤ U ∧ i = .int .i64 k ∧ Own wr w1.heap.size 5 (2 * U) ∧ Hid (Row .u8 wr w1.heap.size 0 (wideBytes true (Z.take k))) ∧ Below w1.heap.size w1 wr) (fun i _ => U - (intOf i).toNat)
  case atStart => exact ⟨0, Nat.zero_le _, rfl, own_made w1 _ _ _, Row.nil _ _ _ _, (Below.refl _ _).alloc (Nat.le_refl _) _⟩
  case round =>
    obtain ⟨k, hk, rfl, hown, hrow, hbel⟩ := hrel
    by_cases hlt : k < U
    · obtain ⟨u, hum, htk, hget⟩ := take_getI Z k (by have := HUL.out; omega)
      obtain ⟨hu0, hu1⟩ := HRG.out u hum
      have hsz := hbel.size
      have hc : wr.cell? ⟨w.heap.size + 1 + 1, k, none⟩ = some (.int .u16 u) := by
        rw [hbel.cell (p := ⟨w.heap.size + 1 + 1, k, none⟩) hown1.lt]
        have := HROW.out k (by rw [HUL.out]; exact hlt)
        rw [hget] at this
        simpa using this
      have hbx : wr.cell? ⟨w.heap.size, 1, none⟩ = some (.iface 112 (.agg #[])) := by
        rw [hbel.cell (p := ⟨w.heap.size, 1, none⟩) (by show w.heap.size < w1.heap.size; omega)]
        exact hbox
      have HT : Hid (Z.take (k + 1) = Z.take k ++ [u]) := htk
      obtain ⟨v0, hv0⟩ := hown.cell (2 * k) (by omega)
      obtain ⟨v1, hv1⟩ := hown.cell (2 * k + 1) (by omega)
      have hf := fun j => hown.frozen j
      clear htk hget hum hbox
      have hsl := fun w => slice43_at w1.heap.size 0 (2 * U) (2 * U) (2 * k) (by omega) (by omega) w
      rw [show ((2 * k : Nat) : Int) = 2 * (k : Int) by omega, Nat.zero_add] at hsl
      have hwr : IntKind.i64.wrap (2 * (k : Int)) = 2 * (k : Int) := by rw [IntKind.wrap_i64]; omega
      have hmeth := methPB
      have HP := w85 w1.heap.size (2 * k) (2 * U - 2 * k) (2 * U - 2 * k) u v0 v1 wr.drew (by omega) hu0 hu1 hown.lt hv0 hv1 (hf _) (hf _)
      go_wp2_with fail
      go_region_with (go_at_call 85; refine HP.mono ?_; rintro e w2 ⟨rfl, rfl⟩)
      all_goals go_wp2
      all_goals go_roundw
      case rel =>
        refine ⟨k + 1, by omega, by go_num, (((hown.setCell _ _).setCell _ _).alloc _).drew, ?_, (((hbel.setCell (Nat.le_refl _) _).setCell (Nat.le_refl _) _).alloc (by simpa using hsz) _).drew⟩
        rw [HT.out, wideBytes_snoc]
        exact ((snoc2 hrow.out hown (by rw [wideBytes_length, List.length_take, HUL.out]; omega) (by omega) _ _).alloc (by simpa using hown.lt) _).drew
      case measure => simp [intOf]; omega
    · obtain rfl : k = U := by omega
      have hZ : Z.take k = Z := by rw [List.take_of_length_le]; rw [HUL.out]; exact Nat.le_refl _
      have hsz := hbel.size
      rw [hZ] at hrow
      have hres : Gives (wideBytes true Z) w (.returned (.slice (some ⟨w1.heap.size, 0, none⟩) (2 * k) (2 * k))) wr :=
        ⟨w1.heap.size, 2 * k, by rw [wideBytes_length, HUL.out], hrow.out, H0.out.size, hown.lt, H0.out.trans (hbel.mono H0.out.size)⟩
      have HRES := hres
      clear hres hrow hown hZ hbel
      go_wp2
      go_ret
      exact HRES

set_option maxRecDepth 100000 in
set_option maxHeartbeats 400000 in
theorem w58l (bom : Int) (s : ByteArray) (rs : List Nat) (w : World) (hr : ∀ r ∈ rs, scalar r) (hs : s.data.toList = rs.flatMap encL) (hm : s.size ≤ 1048576) :
    Calls Try.prog 58 #[.agg #[.int .i64 bom, .iface 113 (.agg #[])], .string s] w (Gives (wideBytes false (unitsL rs)) w) := by
  have hl := flat_len rs
  rw [← hs, ← size_toList] at hl
  obtain ⟨cap, hconv⟩ := conv_runes s rs hr hs hm (w.alloc (.cells #[.int .i64 bom, .iface 113 (.agg #[])] 109))
  have HR : Hid (∀ r ∈ rs, scalar r) := hr
  have hU := unitsL_len rs
  obtain ⟨Z, HZ⟩ : ∃ Z, Hid (unitsL rs = Z) := ⟨_, rfl⟩
  have hrange := unitsL_range rs hr
  rw [HZ.out] at hU hrange ⊢
  have HRG : Hid (∀ u ∈ Z, 0 ≤ u ∧ u < 65536) := hrange
  clear hr hs hrange
  go_enter Try.func58, Try.ntmps58
  go_wp2_with fail
  refine (w61 (w.heap.size + 1) cap rs.length rs _ HR.out rfl (by omega) (by simp) (by simpa using (row_runes (w.alloc (.cells #[.int .i64 bom, .iface 113 (.agg #[])] 109)) rs cap 21).drew)).mono ?_
  rintro e w1 ⟨rfl, hown1, hrow1, hbel1⟩
  rw [HZ.out] at hown1 hrow1 ⊢
  obtain ⟨U, HUL⟩ : ∃ U, Hid (Z.length = U) := ⟨_, rfl⟩
  rw [HUL.out] at hU hown1 ⊢
  have hz1 := hbel1.size
  have hbox : w1.cell? ⟨w.heap.size, 1, none⟩ = some (.iface 113 (.agg #[])) := by
    rw [hbel1.cell (p := ⟨w.heap.size, 1, none⟩) (by simp; omega)]
    simp
  simp at hz1 hown1 hrow1
  have hmk := fun w => make43 (2 * U) (by omega) w
  rw [show ((2 * U : Nat) : Int) = 2 * (U : Int) by omega] at hmk
  have H0 : Hid (Below w.heap.size w w1) := (((Below.refl w.heap.size w).alloc (Nat.le_refl _) _).alloc (by simp) _).drew.trans (hbel1.mono (by simp; omega))
  have HROW : Hid (Row .u16 w1 (w.heap.size + 1 + 1) 0 Z) := hrow1
  clear hbel1 hrow1
  go_wp2_with fail
  go_loopw [23] (fun i wr => ∃ k : Nat, k ≤ U ∧ i = .int .i64 k ∧ Own wr w1.heap.size 5 (2 * U) ∧ Hid (Row .u8 wr w1.heap.size 0 (wideBytes false (Z.take k))) ∧ Below w1.heap.size w1 wr) (fun i _ => U - (intOf i).toNat)
  case atStart => exact ⟨0, Nat.zero_le _, rfl, own_made w1 _ _ _, Row.nil _ _ _ _, (Below.refl _ _).alloc (Nat.le_refl _) _⟩
  case round =>
    obtain ⟨k, hk, rfl, hown, hrow, hbel⟩ := hrel
    by_cases hlt : k < U
    · obtain ⟨u, hum, htk, hget⟩ := take_getI Z k (by have := HUL.out; omega)
      obtain ⟨hu0, hu1⟩ := HRG.out u hum
      have hsz := hbel.size
      have hc : wr.cell? ⟨w.heap.size + 1 + 1, k, none⟩ = some (.int .u16 u) := by
        rw [hbel.cell (p := ⟨w.heap.size + 1 + 1, k, none⟩) hown1.lt]
        have := HROW.out k (by rw [HUL.out]; exact hlt)
        rw [hget] at this
        simpa using this
      have hbx : wr.cell? ⟨w.heap.size, 1, none⟩ = some (.iface 113 (.agg #[])) := by
        rw [hbel.cell (p := ⟨w.heap.size, 1, none⟩) (by show w.heap.size < w1.heap.size; omega)]
        exact hbox
      have HT : Hid (Z.take (k + 1) = Z.take k ++ [u]) := htk
      obtain ⟨v0, hv0⟩ := hown.cell (2 * k) (by omega)
      obtain ⟨v1, hv1⟩ := hown.cell (2 * k + 1) (by omega)
      have hf := fun j => hown.frozen j
      clear htk hget hum hbox
      have hsl := fun w => slice43_at w1.heap.size 0 (2 * U) (2 * U) (2 * k) (by omega) (by omega) w
      rw [show ((2 * k : Nat) : Int) = 2 * (k : Int) by omega, Nat.zero_add] at hsl
      have hwr : IntKind.i64.wrap (2 * (k : Int)) = 2 * (k : Int) := by rw [IntKind.wrap_i64]; omega
      have hmeth := methPL
      have HP := w93 w1.heap.size (2 * k) (2 * U - 2 * k) (2 * U - 2 * k) u v0 v1 wr.drew (by omega) hu0 hu1 hown.lt hv0 hv1 (hf _) (hf _)
      go_wp2_with fail
      go_region_with (go_at_call 93; refine HP.mono ?_; rintro e w2 ⟨rfl, rfl⟩)
      all_goals go_wp2
      all_goals go_roundw
      case rel =>
        refine ⟨k + 1, by omega, by go_num, (((hown.setCell _ _).setCell _ _).alloc _).drew, ?_, (((hbel.setCell (Nat.le_refl _) _).setCell (Nat.le_refl _) _).alloc (by simpa using hsz) _).drew⟩
        rw [HT.out, wideBytes_snoc]
        exact ((snoc2 hrow.out hown (by rw [wideBytes_length, List.length_take, HUL.out]; omega) (by omega) _ _).alloc (by simpa using hown.lt) _).drew
      case measure => simp [intOf]; omega
    · obtain rfl : k = U := by omega
      have hZ : Z.take k = Z := by rw [List.take_of_length_le]; rw [HUL.out]; exact Nat.le_refl _
      have hsz := hbel.size
      rw [hZ] at hrow
      have hres : Gives (wideBytes false Z) w (.returned (.slice (some ⟨w1.heap.size, 0, none⟩) (2 * k) (2 * k))) wr :=
        ⟨w1.heap.size, 2 * k, by rw [wideBytes_length, HUL.out], hrow.out, H0.out.size, hown.lt, H0.out.trans (hbel.mono H0.out.size)⟩
      have HRES := hres
      clear hres hrow hown hZ hbel
      go_wp2
      go_ret
      exact HRES

end Go.Proofs.Qxb6614661aR
