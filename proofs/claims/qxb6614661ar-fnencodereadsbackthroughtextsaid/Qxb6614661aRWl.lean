import Derived.Test.Qxb6614661aRWk
import Derived.Test.Qxb6614661aRPl4
namespace Go.Proofs.Qxb6614661aR
open Go.RowKit

theorem body_slice (g bom n : Nat) (pre l : List Int) (hp : pre.length = bom) (hn : n = bom + l.length) :
    ∃ ob, (∀ wx, (Instr.slice 43 (.slice (some ⟨g, 0, none⟩) n n) (some (.int .i64 (bom : Int))) none none).run Try.prog wx = .ok (.slice (some ⟨g, ob, none⟩) l.length l.length) wx) ∧
      (∀ w, Row .u8 w g 0 (pre ++ l) → Row .u8 w g ob l) := by
  by_cases h : l.length = 0
  · obtain rfl : l = [] := List.eq_nil_of_length_eq_zero h
    refine ⟨0, fun wx => ?_, fun w _ => Row.nil _ _ _ _⟩
    obtain rfl : n = bom := by simpa using hn
    exact slice43_end g 0 n wx
  · refine ⟨bom, fun wx => ?_, fun w hr => ?_⟩
    · have := slice43_at g 0 n n bom (by omega) (by omega) wx
      rw [this, Nat.zero_add, show n - bom = l.length by omega]
    · have := hr.drop
      rw [hp, Nat.zero_add] at this
      exact this

theorem conv_bytes (s : ByteArray) (g ob c : Nat) (w : World) (hr : Row .u8 w g ob (byteInts s)) :
    (convert 43 9 (.slice (some ⟨g, ob, none⟩) s.size c)).run Try.prog w = .ok (.string s) w := by
  have := run_convert_bytes_back (P := Try.prog) w 43 9 5 ⟨g, ob, none⟩ c s.data.toList Try.underlying43 Try.underlying5 Try.underlying9 (by
    intro j hj
    have hj' : j < s.size := by rw [size_toList]; exact hj
    have h1 := hr j (by rw [byteInts_length]; exact hj')
    have hadd : (⟨g, ob, none⟩ : Addr).add j = ⟨g, ob + j, none⟩ := by unfold Addr.add; split <;> simp_all
    rw [hadd, h1]
    simp [byteInts, List.getElem?_eq_getElem hj])
  rw [← size_toList] at this
  exact this

set_option maxRecDepth 100000 in
set_option maxHeartbeats 400000 in
theorem w59n (bom g n : Nat) (pre : List Int) (s : ByteArray) (w : World) (hp : pre.length = bom) (hn : n = bom + s.size) (hg : g < w.heap.size) (hrow : Row .u8 w g 0 (pre ++ byteInts s)) :
    Calls Try.prog 59 #[.agg #[.int .i64 (bom : Int), .nilIface], .slice (some ⟨g, 0, none⟩) n n] w fun e w' => e = .returned (.string s) ∧ Below w.heap.size w w' := by
  obtain ⟨ob, hsl, hro⟩ := body_slice g bom n pre (byteInts s) hp (by rw [byteInts_length]; exact hn)
  rw [byteInts_length] at hsl
  have hconv := conv_bytes s g ob s.size (w.alloc (.cells #[.int .i64 (bom : Int), .nilIface] 109)) ((hro w hrow).alloc hg _)
  clear hro hrow hp hn
  go_enter Try.func59, Try.ntmps59
  go_wp2
  go_ret
  exact ⟨rfl, (Below.refl _ _).alloc (Nat.le_refl _) _⟩

theorem methUB (w : World) : (method 263 112 (.agg #[]) "Uint16").run Try.prog w = .ok (89, .agg #[]) w := by kernel_rfl
theorem methUL (w : World) : (method 263 113 (.agg #[]) "Uint16").run Try.prog w = .ok (97, .agg #[]) w := by kernel_rfl

theorem ub_back (big : Bool) (u : Int) (h0 : 0 ≤ u) (h1 : u < 65536) : ∃ x y : Int, (ub big u).getD 0 0 = x ∧ (ub big u).getD 1 0 = y ∧ 0 ≤ x ∧ x < 256 ∧ 0 ≤ y ∧ y < 256 ∧ (if big then x * 256 + y else y * 256 + x) = u := by
  cases big
  · exact ⟨u % 256, u / 256, rfl, rfl, by omega, by omega, by omega, by omega, by simp; omega⟩
  · exact ⟨u / 256, u % 256, rfl, rfl, by omega, by omega, by omega, by omega, by simp; omega⟩

set_option maxRecDepth 100000 in
set_option maxHeartbeats 1000000 in
theorem w59b (bom g n : Nat) (pre : List Int) (s : ByteArray) (rs : List Nat) (w : World) (hr : ∀ r ∈ rs, scalar r) (hs : s.data.toList = rs.flatMap encL) (_hb : bom ≤ 3) (hm : s.size ≤ 2097152)
    (hp : pre.length = bom) (hn : n = bom + 2 * (unitsL rs).length) (hg : g < w.heap.size) (hrow : Row .u8 w g 0 (pre ++ wideBytes true (unitsL rs))) :
    Calls Try.prog 59 #[.agg #[.int .i64 (bom : Int), .iface 112 (.agg #[])], .slice (some ⟨g, 0, none⟩) n n] w fun e w' => e = .returned (.string s) ∧ Below w.heap.size w w' := by
  obtain ⟨ob, hsl, hro⟩ := body_slice g bom n pre (wideBytes true (unitsL rs)) hp (by rw [wideBytes_length]; exact hn)
  have hfl := flat_len rs
  rw [← hs, ← size_toList] at hfl
  have hUl := unitsL_len rs
  have HRG := hidj (unitsL_range rs hr)
  have HCB := hidj (conv_back s rs hr hs)
  have H62 := hidj (fun (g' c U : Nat) w hU hg' hrow' => w62 g' c U rs w hr hU (by omega) hg' hrow')
  obtain ⟨U, HU⟩ : ∃ U, Hid ((unitsL rs).length = U) := ⟨_, rfl⟩
  rw [HU.out] at hUl hn
  rw [wideBytes_length, HU.out] at hsl
  have hmk := fun w => make118 U (by omega) w
  have HB := hidj (hro w hrow)
  have hmeth := methUB
  have hUb : U ≤ 4194304 := by omega
  have hdiv : (2 * (U : Int)).tdiv 2 = U := by rw [Int.tdiv_eq_ediv_of_nonneg (by omega)]; omega
  clear hro hrow hp hr hs hn
  go_enter Try.func59, Try.ntmps59
  go_wp2
  go_loopw [23] (fun i wr => ∃ k : Nat, k ≤ U ∧ i = .int .i64 k ∧ Own wr (w.heap.size + 1) 121 U ∧ Hid (Row .u16 wr (w.heap.size + 1) 0 ((unitsL rs).take k)) ∧
    Hid (Below (w.heap.size + 1) (w.alloc (.cells #[.int .i64 (bom : Int), .iface 112 (.agg #[])] 109)) wr)) (fun i _ => U - (intOf i).toNat)
  case atStart => exact ⟨0, Nat.zero_le _, rfl, by simpa using own_made (w.alloc (.cells #[.int .i64 (bom : Int), .iface 112 (.agg #[])] 109)) #[.int .u16 0] U 121, Row.nil _ _ _ _, (Below.refl _ _).alloc (by simp) _⟩
  case round =>
    obtain ⟨k, hk, rfl, hown, hrow, hbel⟩ := hrel
    have hsz := hbel.out.size
    simp at hsz
    by_cases hlt : k < U
    · obtain ⟨u, hum, htk, hget⟩ := take_getI (unitsL rs) k (by have := HU.out; omega)
      obtain ⟨hu0, hu1⟩ := HRG.out u hum
      have hwg := wide_get true (unitsL rs) k (by have := HU.out; omega)
      rw [hget] at hwg
      obtain ⟨x, y, hx, hy, x0, x1, y0, y1, hval⟩ := ub_back true u hu0 hu1
      rw [hx, hy] at hwg
      rw [if_pos rfl] at hval
      have hbx : wr.cell? ⟨w.heap.size, 1, none⟩ = some (.iface 112 (.agg #[])) := by
        rw [hbel.out.cell (p := ⟨w.heap.size, 1, none⟩) (by simp)]
        simp
      have rb := ((HB.out.alloc hg (.cells #[.int .i64 (bom : Int), .iface 112 (.agg #[])] 109)).below hbel.out (by omega))
      have c0 := rb (2 * k) (by rw [wideBytes_length, HU.out]; omega)
      have c1 := rb (2 * k + 1) (by rw [wideBytes_length, HU.out]; omega)
      rw [hwg.1] at c0
      rw [hwg.2, ← Nat.add_assoc] at c1
      have HT : Hid ((unitsL rs).take (k + 1) = (unitsL rs).take k ++ [u]) := htk
      obtain ⟨v0, hv0⟩ := hown.cell k hlt
      have hf := hown.frozen k
      have hDlt := hown.lt
      have hDne : ¬ w.heap.size + 1 = wr.heap.size := by omega
      have hsl2 := fun wx => slice43_at g ob (2 * U) (2 * U) (2 * k) (by omega) (by omega) wx
      rw [show ((2 * k : Nat) : Int) = 2 * (k : Int) by omega] at hsl2
      have hwr : IntKind.i64.wrap (2 * (k : Int)) = 2 * (k : Int) := by rw [IntKind.wrap_i64]; omega
      have hgw : g < wr.heap.size := by omega
      have HP := w89 g (ob + 2 * k) (2 * U - 2 * k) (2 * U - 2 * k) x y wr.drew (by omega) x0 x1 y0 y1 hgw c0 c1
      rw [hval] at HP
      have HL : Hid (((unitsL rs).take k).length = k) := by rw [List.length_take, HU.out]; exact Nat.min_eq_left hk
      clear htk hget hum hwg hx hy hval rb c0 c1
      go_wp2_with fail
      go_region_with (go_at_call 89; refine HP.mono ?_; rintro e w2 ⟨rfl, rfl⟩)
      all_goals go_wp2
      all_goals go_roundw
      case rel =>
        refine ⟨k + 1, by omega, by go_num, ((hown.setCell _ _).alloc _).drew.drew, ?_, (((hbel.out.setCell (Nat.le_refl _) _).alloc (by simp; omega) _).drew).drew⟩
        rw [HT.out]
        have := hrow.out.snoc hown (by rw [HL.out]; omega) u
        rw [HL.out, Nat.zero_add] at this
        exact ((this.alloc (by simpa using hDlt) _).drew).drew
      case measure => simp [intOf]; omega
    · obtain rfl : k = U := by omega
      have hrow2 := hrow.out
      rw [List.take_of_length_le (by rw [HU.out]; exact Nat.le_refl _)] at hrow2
      have HC := H62.out (w.heap.size + 1) k k wr HU.out hown.lt hrow2
      have HBE : Hid (Below w.heap.size w wr) := ((Below.refl _ _).alloc (Nat.le_refl _) _).trans (hbel.out.mono (by omega))
      clear hrow hrow2 hown hbel
      go_wp2_with fail
      refine HC.mono ?_
      rintro e w2 ⟨v', rfl, h1, h2⟩
      have hconv := HCB.out _ v' w2 h1
      have HB2 : Hid (Below w.heap.size w w2) := HBE.out.trans (h2.mono HBE.out.size)
      clear h1 h2
      go_wp2
      go_ret
      exact ⟨rfl, HB2.out⟩

set_option maxRecDepth 100000 in
set_option maxHeartbeats 1000000 in
theorem w59l (bom g n : Nat) (pre : List Int) (s : ByteArray) (rs : List Nat) (w : World) (hr : ∀ r ∈ rs, scalar r) (hs : s.data.toList = rs.flatMap encL) (_hb : bom ≤ 3) (hm : s.size ≤ 2097152)
    (hp : pre.length = bom) (hn : n = bom + 2 * (unitsL rs).length) (hg : g < w.heap.size) (hrow : Row .u8 w g 0 (pre ++ wideBytes false (unitsL rs))) :
    Calls Try.prog 59 #[.agg #[.int .i64 (bom : Int), .iface 113 (.agg #[])], .slice (some ⟨g, 0, none⟩) n n] w fun e w' => e = .returned (.string s) ∧ Below w.heap.size w w' := by
  obtain ⟨ob, hsl, hro⟩ := body_slice g bom n pre (wideBytes false (unitsL rs)) hp (by rw [wideBytes_length]; exact hn)
  have hfl := flat_len rs
  rw [← hs, ← size_toList] at hfl
  have hUl := unitsL_len rs
  have HRG := hidj (unitsL_range rs hr)
  have HCB := hidj (conv_back s rs hr hs)
  have H62 := hidj (fun (g' c U : Nat) w hU hg' hrow' => w62 g' c U rs w hr hU (by omega) hg' hrow')
  obtain ⟨U, HU⟩ : ∃ U, Hid ((unitsL rs).length = U) := ⟨_, rfl⟩
  rw [HU.out] at hUl hn
  rw [wideBytes_length, HU.out] at hsl
  have hmk := fun w => make118 U (by omega) w
  have HB := hidj (hro w hrow)
  have hmeth := methUL
  have hUb : U ≤ 4194304 := by omega
  have hdiv : (2 * (U : Int)).tdiv 2 = U := by rw [Int.tdiv_eq_ediv_of_nonneg (by omega)]; omega
  clear hro hrow hp hr hs hn
  go_enter Try.func59, Try.ntmps59
  go_wp2
  go_loopw [23] (fun i wr => ∃ k : Nat, k ≤ U ∧ i = .int .i64 k ∧ Own wr (w.heap.size + 1) 121 U ∧ Hid (Row .u16 wr (w.heap.size + 1) 0 ((unitsL rs).take k)) ∧
    Hid (Below (w.heap.size + 1) (w.alloc (.cells #[.int .i64 (bom : Int), .iface 113 (.agg #[])] 109)) wr)) (fun i _ => U - (intOf i).toNat)
  case atStart => exact ⟨0, Nat.zero_le _, rfl, by simpa using own_made (w.alloc (.cells #[.int .i64 (bom : Int), .iface 113 (.agg #[])] 109)) #[.int .u16 0] U 121, Row.nil _ _ _ _, (Below.refl _ _).alloc (by simp) _⟩
  case round =>
    obtain ⟨k, hk, rfl, hown, hrow, hbel⟩ := hrel
    have hsz := hbel.out.size
    simp at hsz
    by_cases hlt : k < U
    · obtain ⟨u, hum, htk, hget⟩ := take_getI (unitsL rs) k (by have := HU.out; omega)
      obtain ⟨hu0, hu1⟩ := HRG.out u hum
      have hwg := wide_get false (unitsL rs) k (by have := HU.out; omega)
      rw [hget] at hwg
      obtain ⟨x, y, hx, hy, x0, x1, y0, y1, hval⟩ := ub_back false u hu0 hu1
      rw [hx, hy] at hwg
      rw [if_neg (by decide)] at hval
      have hbx : wr.cell? ⟨w.heap.size, 1, none⟩ = some (.iface 113 (.agg #[])) := by
        rw [hbel.out.cell (p := ⟨w.heap.size, 1, none⟩) (by simp)]
        simp
      have rb := ((HB.out.alloc hg (.cells #[.int .i64 (bom : Int), .iface 113 (.agg #[])] 109)).below hbel.out (by omega))
      have c0 := rb (2 * k) (by rw [wideBytes_length, HU.out]; omega)
      have c1 := rb (2 * k + 1) (by rw [wideBytes_length, HU.out]; omega)
      rw [hwg.1] at c0
      rw [hwg.2, ← Nat.add_assoc] at c1
      have HT : Hid ((unitsL rs).take (k + 1) = (unitsL rs).take k ++ [u]) := htk
      obtain ⟨v0, hv0⟩ := hown.cell k hlt
      have hf := hown.frozen k
      have hDlt := hown.lt
      have hDne : ¬ w.heap.size + 1 = wr.heap.size := by omega
      have hsl2 := fun wx => slice43_at g ob (2 * U) (2 * U) (2 * k) (by omega) (by omega) wx
      rw [show ((2 * k : Nat) : Int) = 2 * (k : Int) by omega] at hsl2
      have hwr : IntKind.i64.wrap (2 * (k : Int)) = 2 * (k : Int) := by rw [IntKind.wrap_i64]; omega
      have hgw : g < wr.heap.size := by omega
      have HP := w97 g (ob + 2 * k) (2 * U - 2 * k) (2 * U - 2 * k) x y wr.drew (by omega) x0 x1 y0 y1 hgw c0 c1
      rw [hval] at HP
      have HL : Hid (((unitsL rs).take k).length = k) := by rw [List.length_take, HU.out]; exact Nat.min_eq_left hk
      clear htk hget hum hwg hx hy hval rb c0 c1
      go_wp2_with fail
      go_region_with (go_at_call 97; refine HP.mono ?_; rintro e w2 ⟨rfl, rfl⟩)
      all_goals go_wp2
      all_goals go_roundw
      case rel =>
        refine ⟨k + 1, by omega, by go_num, ((hown.setCell _ _).alloc _).drew.drew, ?_, (((hbel.out.setCell (Nat.le_refl _) _).alloc (by simp; omega) _).drew).drew⟩
        rw [HT.out]
        have := hrow.out.snoc hown (by rw [HL.out]; omega) u
        rw [HL.out, Nat.zero_add] at this
        exact ((this.alloc (by simpa using hDlt) _).drew).drew
      case measure => simp [intOf]; omega
    · obtain rfl : k = U := by omega
      have hrow2 := hrow.out
      rw [List.take_of_length_le (by rw [HU.out]; exact Nat.le_refl _)] at hrow2
      have HC := H62.out (w.heap.size + 1) k k wr HU.out hown.lt hrow2
      have HBE : Hid (Below w.heap.size w wr) := ((Below.refl _ _).alloc (Nat.le_refl _) _).trans (hbel.out.mono (by omega))
      clear hrow hrow2 hown hbel
      go_wp2_with fail
      refine HC.mono ?_
      rintro e w2 ⟨v', rfl, h1, h2⟩
      have hconv := HCB.out _ v' w2 h1
      have HB2 : Hid (Below w.heap.size w w2) := HBE.out.trans (h2.mono HBE.out.size)
      clear h1 h2
      go_wp2
      go_ret
      exact ⟨rfl, HB2.out⟩


set_option maxHeartbeats 400000 in
theorem w47 (bom g n : Nat) (pre : List Int) (s : ByteArray) (w : World) (hp : pre.length = bom) (hn : n = bom + s.size) (hg : g < w.heap.size) (hrow : Row .u8 w g 0 (pre ++ byteInts s)) :
    Calls Try.prog 47 #[.int .i64 (bom : Int), .slice (some ⟨g, 0, none⟩) n n] w fun e w' => e = .returned (.string s) ∧ Below w.heap.size w w' := by
  have H := w59n bom g n pre s w hp hn hg hrow
  clear hp hn hrow
  go_enter Try.func47, Try.ntmps47
  go_wp2_with (go_at_call 59; refine H.mono ?_; rintro e w1 ⟨rfl, h1⟩)
  go_ret
  exact ⟨rfl, h1⟩

set_option maxHeartbeats 400000 in
theorem w48 (bom g n : Nat) (pre : List Int) (s : ByteArray) (rs : List Nat) (w : World) (hr : ∀ r ∈ rs, scalar r) (hs : s.data.toList = rs.flatMap encL) (hb : bom ≤ 3) (hm : s.size ≤ 2097152)
    (hp : pre.length = bom) (hn : n = bom + 2 * (unitsL rs).length) (hg : g < w.heap.size) (hrow : Row .u8 w g 0 (pre ++ wideBytes true (unitsL rs))) :
    Calls Try.prog 48 #[.int .i64 (bom : Int), .slice (some ⟨g, 0, none⟩) n n] w fun e w' => e = .returned (.string s) ∧ Below w.heap.size w w' := by
  have H := w59b bom g n pre s rs w hr hs hb hm hp hn hg hrow
  clear hp hn hrow hr hs hb hm
  go_enter Try.func48, Try.ntmps48
  go_wp2_with (go_at_call 59; refine H.mono ?_; rintro e w1 ⟨rfl, h1⟩)
  go_ret
  exact ⟨rfl, h1⟩

set_option maxHeartbeats 400000 in
theorem w49 (bom g n : Nat) (pre : List Int) (s : ByteArray) (rs : List Nat) (w : World) (hr : ∀ r ∈ rs, scalar r) (hs : s.data.toList = rs.flatMap encL) (hb : bom ≤ 3) (hm : s.size ≤ 2097152)
    (hp : pre.length = bom) (hn : n = bom + 2 * (unitsL rs).length) (hg : g < w.heap.size) (hrow : Row .u8 w g 0 (pre ++ wideBytes false (unitsL rs))) :
    Calls Try.prog 49 #[.int .i64 (bom : Int), .slice (some ⟨g, 0, none⟩) n n] w fun e w' => e = .returned (.string s) ∧ Below w.heap.size w w' := by
  have H := w59l bom g n pre s rs w hr hs hb hm hp hn hg hrow
  clear hp hn hrow hr hs hb hm
  go_enter Try.func49, Try.ntmps49
  go_wp2_with (go_at_call 59; refine H.mono ?_; rintro e w1 ⟨rfl, h1⟩)
  go_ret
  exact ⟨rfl, h1⟩

set_option maxHeartbeats 400000 in
theorem w22 (wide big : Bool) (bom g n : Nat) (pre : List Int) (s : ByteArray) (rs : List Nat) (w : World) (hw : wide = true → (∀ r ∈ rs, scalar r) ∧ s.data.toList = rs.flatMap encL) (hb : bom ≤ 3) (hm : s.size ≤ 2097152)
    (hp : pre.length = bom) (hn : n = bom + (encB wide big s rs).length) (hg : g < w.heap.size) (hrow : Row .u8 w g 0 (pre ++ encB wide big s rs)) :
    Calls Try.prog 22 #[.bool wide, .bool big, .int .i64 (bom : Int), .slice (some ⟨g, 0, none⟩) n n] w fun e w' => e = .returned (.string s) ∧ Below w.heap.size w w' := by
  cases wide
  · have H := w47 bom g n pre s w hp (by rw [hn]; exact congrArg (bom + ·) (byteInts_length s)) hg hrow
    clear hp hn hrow hw hb hm
    go_enter Try.func22, Try.ntmps22
    go_wp2_with (go_at_call 47; refine H.mono ?_; rintro e w1 ⟨rfl, h1⟩)
    go_ret
    exact ⟨rfl, h1⟩
  · obtain ⟨hr, hs⟩ := hw rfl
    have hn' : n = bom + 2 * (unitsL rs).length := by rw [hn]; exact congrArg (bom + ·) (wideBytes_length big _)
    cases big
    · have H := w49 bom g n pre s rs w hr hs hb hm hp hn' hg hrow
      clear hp hn hn' hrow hw hr hs hb hm
      go_enter Try.func22, Try.ntmps22
      go_wp2_with (go_at_call 49; refine H.mono ?_; rintro e w1 ⟨rfl, h1⟩)
      go_ret
      exact ⟨rfl, h1⟩
    · have H := w48 bom g n pre s rs w hr hs hb hm hp hn' hg hrow
      clear hp hn hn' hrow hw hr hs hb hm
      go_enter Try.func22, Try.ntmps22
      go_wp2_with (go_at_call 48; refine H.mono ?_; rintro e w1 ⟨rfl, h1⟩)
      go_ret
      exact ⟨rfl, h1⟩

end Go.Proofs.Qxb6614661aR
