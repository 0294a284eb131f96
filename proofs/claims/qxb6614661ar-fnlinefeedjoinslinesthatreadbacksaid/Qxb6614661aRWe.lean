import Derived.Test.Qxb6614661aRWd
import Derived.Laws.CopyOwn
namespace Go.Proofs.Qxb6614661aR
open Go.RowKit

set_option maxHeartbeats 400000 in
theorem w44 (bom : Int) (s : ByteArray) (w : World) : Calls Try.prog 44 #[.int .i64 bom, .string s] w (Gives (byteInts s) w) := by
  have H := w58n bom s w
  go_enter Try.func44, Try.ntmps44
  go_wp2_with (go_at_call 58; refine H.mono ?_; rintro e w1 ⟨g, c, rfl, h1, h2, h3, h4⟩)
  go_ret
  exact ⟨_, _, rfl, h1, h2, h3, h4⟩

set_option maxHeartbeats 400000 in
theorem w45 (bom : Int) (s : ByteArray) (rs : List Nat) (w : World) (hr : ∀ r ∈ rs, scalar r) (hs : s.data.toList = rs.flatMap encL) (hm : s.size ≤ 1048576) :
    Calls Try.prog 45 #[.int .i64 bom, .string s] w (Gives (wideBytes true (unitsL rs)) w) := by
  have H := w58b bom s rs w hr hs hm
  clear hr hs hm
  go_enter Try.func45, Try.ntmps45
  go_wp2_with (go_at_call 58; refine H.mono ?_; rintro e w1 ⟨g, c, rfl, h1, h2, h3, h4⟩)
  go_ret
  exact ⟨_, _, rfl, h1, h2, h3, h4⟩

set_option maxHeartbeats 400000 in
theorem w46 (bom : Int) (s : ByteArray) (rs : List Nat) (w : World) (hr : ∀ r ∈ rs, scalar r) (hs : s.data.toList = rs.flatMap encL) (hm : s.size ≤ 1048576) :
    Calls Try.prog 46 #[.int .i64 bom, .string s] w (Gives (wideBytes false (unitsL rs)) w) := by
  have H := w58l bom s rs w hr hs hm
  clear hr hs hm
  go_enter Try.func46, Try.ntmps46
  go_wp2_with (go_at_call 58; refine H.mono ?_; rintro e w1 ⟨g, c, rfl, h1, h2, h3, h4⟩)
  go_ret
  exact ⟨_, _, rfl, h1, h2, h3, h4⟩

/-- what zzEncode gives: the string's bytes, or the bytes of the UTF-16 units of its code points. -/
def encB (wide big : Bool) (s : ByteArray) (rs : List Nat) : List Int := if wide then wideBytes big (unitsL rs) else byteInts s

set_option maxHeartbeats 400000 in
theorem w17 (wide big : Bool) (bom : Int) (s : ByteArray) (rs : List Nat) (w : World) (hw : wide = true → (∀ r ∈ rs, scalar r) ∧ s.data.toList = rs.flatMap encL) (hm : s.size ≤ 1048576) :
    Calls Try.prog 17 #[.bool wide, .bool big, .int .i64 bom, .string s] w (Gives (encB wide big s rs) w) := by
  cases wide
  · have H := w44 bom s w
    clear hw
    go_enter Try.func17, Try.ntmps17
    go_wp2_with (go_at_call 44; refine H.mono ?_; rintro e w1 ⟨g, c, rfl, h1, h2, h3, h4⟩)
    go_ret
    exact ⟨_, _, rfl, h1, h2, h3, h4⟩
  · obtain ⟨hr, hs⟩ := hw rfl
    cases big
    · have H := w46 bom s rs w hr hs hm
      clear hw hr hs hm
      go_enter Try.func17, Try.ntmps17
      go_wp2_with (go_at_call 46; refine H.mono ?_; rintro e w1 ⟨g, c, rfl, h1, h2, h3, h4⟩)
      go_ret
      exact ⟨_, _, rfl, h1, h2, h3, h4⟩
    · have H := w45 bom s rs w hr hs hm
      clear hw hr hs hm
      go_enter Try.func17, Try.ntmps17
      go_wp2_with (go_at_call 45; refine H.mono ?_; rintro e w1 ⟨g, c, rfl, h1, h2, h3, h4⟩)
      go_ret
      exact ⟨_, _, rfl, h1, h2, h3, h4⟩

def u8s (l : List Int) : List Value := l.map (Value.int .u8)

theorem row_of_heap {w : World} {g : Nat} {l : List Int} {e : TypeId} {fr : Nat × Nat} (h : w.heap[g]? = some (.cells (u8s l).toArray e fr)) : Row .u8 w g 0 l := by
  intro j hj
  unfold World.cell?
  rw [h]
  simp [u8s, List.getElem?_eq_getElem hj]

theorem cells_of_row {w : World} {b o : Nat} {l : List Int} (h : Row .u8 w b o l) : ∀ j v, (u8s l)[j]? = some v → w.cell? ((⟨b, o, none⟩ : Addr).add j) = some v := by
  intro j v hj
  have hlt : j < l.length := by
    have := (List.getElem?_eq_some_iff.1 hj).1
    simpa [u8s] using this
  have := h j hlt
  simp [u8s, List.getElem?_eq_getElem hlt] at hj
  have hadd : (⟨b, o, none⟩ : Addr).add j = ⟨b, o + j, none⟩ := by unfold Addr.add; split <;> simp_all
  rw [hadd, this, ← hj]
  simp [List.getElem?_eq_getElem hlt]

theorem one_u8s (l : List Int) : ∀ v ∈ u8s l, v.oneCell' = true := by
  intro v hv
  simp [u8s] at hv
  obtain ⟨a, _, rfl⟩ := hv
  rfl

theorem own_setCells {g : Nat} {e : TypeId} {N : Nat} (b : Nat) : ∀ (vs : List Value) (o : Nat) (w : World), Own w g e N → Own (w.setCells b o vs) g e N
  | [], _, _, h => h
  | v :: r, o, w, h => by rw [World.setCells]; exact own_setCells b r (o + 1) _ (h.setCell _ _)

theorem below_setCells {B g : Nat} {w0 : World} (hg : B ≤ g) : ∀ (vs : List Value) (o : Nat) (w : World), Below B w0 w → Below B w0 (w.setCells g o vs)
  | [], _, _, h => h
  | v :: r, o, w, h => by rw [World.setCells]; exact below_setCells hg r (o + 1) _ (h.setCell hg _)

/-- copy(dst, src) of a row of bytes into a row of the call's own. -/
theorem copy43 (w : World) (g o dLen dCap b o2 sCap N : Nat) (l : List Int) (hown : Own w g 5 N) (hrow : Row .u8 w b o2 l) (hfit : o + l.length ≤ N) (hd : l.length ≤ dLen) :
    ∃ w', (Builtin.copy_ #[43, 43] 3 #[.slice (some ⟨g, o, none⟩) dLen dCap, .slice (some ⟨b, o2, none⟩) l.length sCap]).run Try.prog w = .ok (goInt l.length) w' ∧ Own w' g 5 N ∧ Row .u8 w' g o l ∧
      (∀ g' o' ys, Row .u8 w g' o' ys → (g' ≠ g ∨ o' + ys.length ≤ o ∨ o + l.length ≤ o') → Row .u8 w' g' o' ys) ∧ (∀ B w0, Below B w0 w → B ≤ g → Below B w0 w') := by
  have hlen : (u8s l).length = l.length := by simp [u8s]
  have hc : ∀ j, j < (u8s l).length → (w.cell? ⟨g, o + j, none⟩).isSome = true := by
    intro j hj
    obtain ⟨v, hv⟩ := hown.cell (o + j) (by omega)
    rw [hv]
    rfl
  have hrun := run_copy_cells (P := Try.prog) w 43 43 3 5 g o dLen dCap ⟨b, o2, none⟩ l.length sCap (u8s l) Try.underlying43 (by kernel_rfl) (by rw [hlen]; exact (Nat.min_eq_left hd).symm) (cells_of_row hrow) hc (fun j _ => hown.frozen _) (one_u8s l)
  rw [hlen] at hrun
  refine ⟨w.setCells g o (u8s l), hrun, own_setCells g _ _ _ hown, ?_, ?_, fun B w0 hb hB => below_setCells hB _ _ _ hb⟩
  · intro j hj
    rw [World.cell?_setCells_in g (u8s l) o w hc j (by omega)]
    simp [u8s, List.getElem?_eq_getElem hj]
  · intro g' o' ys hy hne j hj
    rw [World.cell?_setCells_out g (u8s l) o w _ (by intro h1 _; simp at h1 ⊢; omega)]
    exact hy j hj

theorem slice43_end (g o len : Nat) (w : World) :
    (Instr.slice 43 (.slice (some ⟨g, o, none⟩) len len) (some (.int .i64 (len : Int))) none none).run Try.prog w = .ok (.slice (some ⟨g, o, none⟩) 0 0) w := by
  rw [run_slice_l (P := Try.prog) w 43 (some ⟨g, o, none⟩) len len (by rw [elem43]; exact Try.underlying43) .i64 len (by omega) (by omega), elem43, size5]
  simp [Result.andThen, sliced]

set_option maxRecDepth 100000 in
set_option maxHeartbeats 400000 in
theorem w19 (g1 g2 c1 c2 : Nat) (la lb : List Int) (w : World) (h1 : g1 < w.heap.size) (h2 : g2 < w.heap.size) (r1 : Row .u8 w g1 0 la) (r2 : Row .u8 w g2 0 lb) (hm : la.length + lb.length ≤ 16777216) :
    Calls Try.prog 19 #[.slice (some ⟨g1, 0, none⟩) la.length c1, .slice (some ⟨g2, 0, none⟩) lb.length c2] w (Gives (la ++ lb) w) := by
  have hmk := fun w => make43 (la.length + lb.length) hm w
  obtain ⟨n1, N1⟩ : ∃ n, Hid (la.length = n) := ⟨_, rfl⟩
  obtain ⟨n2, N2⟩ : ∃ n, Hid (lb.length = n) := ⟨_, rfl⟩
  have b0 : Below w.heap.size w (w.alloc (.cells (madeCells #[Value.int .u8 0] (la.length + lb.length)) 5)) := (Below.refl _ _).alloc (Nat.le_refl _) _
  have o0 := own_made w #[Value.int .u8 0] (la.length + lb.length) 5
  obtain ⟨w1, run1, own1, row1, kept1, bel1⟩ := copy43 _ w.heap.size 0 (la.length + lb.length) (la.length + lb.length) g1 0 c1 _ la o0 (r1.below b0 h1) (by omega) (by omega)
  have b1 := bel1 _ _ b0 (Nat.le_refl _)
  by_cases hz : lb.length = 0
  · obtain rfl : lb = [] := List.eq_nil_of_length_eq_zero hz
    obtain ⟨w2, run2, own2, row2, kept2, bel2⟩ := copy43 _ w.heap.size 0 0 0 g2 0 c2 _ [] own1 (Row.nil _ _ _ _) (by simp) (by simp)
    have hsl := fun wx => slice43_end w.heap.size 0 la.length wx
    have hrow := kept2 _ _ _ row1 (by simp)
    have HRES : Hid (Gives (la ++ []) w (.returned (.slice (some ⟨w.heap.size, 0, none⟩) la.length la.length)) w2) :=
      ⟨w.heap.size, la.length, by simp, by simpa using hrow, Nat.le_refl _, own2.lt, bel2 _ _ b1 (Nat.le_refl _)⟩
    simp only [List.length_nil, Nat.add_zero] at hmk run1 run2 hsl HRES hm ⊢
    rw [N1.out] at hmk run1 hsl HRES hm ⊢
    clear own1 own2 row1 row2 kept1 kept2 bel1 bel2 b0 b1 o0 r1 r2 hrow hz
    go_enter Try.func19, Try.ntmps19
    go_wp2
    go_ret
    exact HRES.out
  · obtain ⟨w2, run2, own2, row2, kept2, bel2⟩ := copy43 _ w.heap.size la.length lb.length lb.length g2 0 c2 _ lb own1 (kept1 _ _ _ (r2.below b0 h2) (by omega)) (by omega) (Nat.le_refl _)
    have hsl := fun wx => slice43_at w.heap.size 0 (la.length + lb.length) (la.length + lb.length) la.length (by omega) (by omega) wx
    have hrow := kept2 _ _ _ row1 (by omega)
    have HRES : Hid (Gives (la ++ lb) w (.returned (.slice (some ⟨w.heap.size, 0, none⟩) (la.length + lb.length) (la.length + lb.length))) w2) :=
      ⟨w.heap.size, _, by rw [List.length_append], hrow.append (by simpa using row2), Nat.le_refl _, own2.lt, bel2 _ _ b1 (Nat.le_refl _)⟩
    rw [N1.out, N2.out] at hmk run1 run2 hsl HRES hm ⊢
    rw [show ((n1 + n2 : Nat) : Int) = (n1 : Int) + (n2 : Int) by omega] at hmk
    rw [show n1 + n2 - n1 = n2 by omega, Nat.zero_add] at hsl
    clear own1 own2 row1 row2 kept1 kept2 bel1 bel2 b0 b1 o0 r1 r2 hrow hz
    go_enter Try.func19, Try.ntmps19
    go_wp2
    go_ret
    exact HRES.out

end Go.Proofs.Qxb6614661aR
