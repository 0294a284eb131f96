import Derived.Test.Qxb6614661aRWh
namespace Go.Proofs.Qxb6614661aR
open Go.RowKit

theorem encB_nl (wide big : Bool) : encB wide big ⟨#[10]⟩ [10] = nl wide big := by
  cases wide
  · rfl
  · cases big <;> rfl

theorem nl_len (wide big : Bool) : 1 ≤ (nl wide big).length ∧ (nl wide big).length ≤ 2 := by
  cases wide
  · cases big <;> exact ⟨by decide, by decide⟩
  · cases big <;> exact ⟨by decide, by decide⟩

theorem w17nl (wide big : Bool) (bom : Int) (w : World) : Calls Try.prog 17 #[.bool wide, .bool big, .int .i64 bom, .string ⟨#[10]⟩] w (Gives (nl wide big) w) := by
  rw [← encB_nl]
  refine w17 wide big bom ⟨#[10]⟩ [10] w (fun _ => ⟨?_, ?_⟩) (by decide)
  · intro r hr
    simp at hr
    subst hr
    exact Or.inl (by decide)
  · simp [encL1 (r := 10) (by decide)]

set_option maxRecDepth 100000 in
set_option maxHeartbeats 400000 in
theorem walk6 (wide big : Bool) (bom : Int) (w : World) :
    Calls Try.prog 6 #[.bool wide, .bool big, .int .i64 bom] w fun e w' => e = .returned (.bool true) ∧ Below w.heap.size w w' := by
  have H23 := hid (fun w => w23 wide big w)
  have H24 := hid (fun w => w24 wide big bom w)
  have H17 := hid (fun w => w17nl wide big bom w)
  obtain ⟨hl1, hl2⟩ := nl_len wide big
  obtain ⟨L, HL⟩ : ∃ L, Hid (nl wide big = L) := ⟨_, rfl⟩
  rw [HL.out] at H23 H24 H17 hl1 hl2
  go_enter Try.func6, Try.ntmps6
  go_wp2_with fail
  refine (H23.out _).mono ?_
  rintro e w1 ⟨g1, c1, rfl, o1, r1, l1, b1⟩
  have s1 := o1.lt
  go_wp2_with fail
  refine (H24.out _).mono ?_
  rintro e w2 ⟨g2, c2, rfl, o2, r2, l2, b2⟩
  have r1a := r1.below b2 s1
  have s2 := o2.lt
  go_wp2_with fail
  refine (w18 g2 g1 c2 c1 _ L _ rfl (by unfold maxLen; omega) r2 r1a).mono ?_
  rintro e w3 ⟨rfl, q3, rfl⟩
  go_wp2_with fail
  refine (H17.out _).mono ?_
  rintro e w4 ⟨g4, c4, rfl, r4, l4, s4, b4⟩
  have r2b := (r2.drewN q3).below b4 s2
  have o2b := (o2.drewN q3).below b4 s2
  have r1b := (r1a.drewN q3).below b4 (Nat.lt_of_lt_of_le s1 b2.size)
  go_wp2_with fail
  refine (w18 g2 g4 c2 c4 _ L _ rfl (by unfold maxLen; omega) r2b r4).mono ?_
  rintro e w5 ⟨rfl, q5, rfl⟩
  have hc := r2b 0 (by omega)
  rw [Nat.zero_add] at hc
  obtain ⟨x, HX⟩ : ∃ x, Hid (L.getD 0 0 = x) := ⟨_, rfl⟩
  rw [HX.out] at hc
  have hf := o2b.frozen 0
  have hpos : 0 < L.length := by omega
  go_wp2_with fail
  refine (H24.out _).mono ?_
  rintro e w6 ⟨g6, c6, rfl, o6, r6, l6, b6⟩
  have s1c : g1 < w4.heap.size := Nat.lt_of_lt_of_le (Nat.lt_of_lt_of_le s1 b2.size) b4.size
  have s2c : g2 < w4.heap.size := Nat.lt_of_lt_of_le s2 b4.size
  have r1c := ((r1b.drewN q5).setCell g2 0 (.int .u8 (bits .xor .u8 x 255)) (by omega)).below b6 (by simpa [World.setCell] using s1c)
  go_wp2_with fail
  refine (w18 g6 g1 c6 c1 _ L _ rfl (by unfold maxLen; omega) r6 r1c).mono ?_
  rintro e w7 ⟨rfl, q7, rfl⟩
  have t2 : Below w.heap.size w w2 := b1.trans (b2.mono b1.size)
  have t4 : Below w.heap.size w w4 := by
    have u : Below w.heap.size w (w2.drewN q3) := ⟨t2.os, t2.tape, t2.output, t2.size, t2.block⟩
    exact u.trans (b4.mono t2.size)
  have t5 : Below w.heap.size w ((w4.drewN q5).setCell ⟨g2, 0, none⟩ (.int .u8 (bits .xor .u8 x 255))) := by
    have u : Below w.heap.size w (w4.drewN q5) := ⟨t4.os, t4.tape, t4.output, t4.size, t4.block⟩
    exact u.setCell (Nat.le_trans b1.size l2) _
  have t6 : Below w.heap.size w w6 := t5.trans (b6.mono t5.size)
  have T6 := hid t6
  clear t2 t4 t5 t6 b1 b2 b4 b6
  go_wp2_with fail
  go_ret
  exact ⟨rfl, ⟨T6.out.os, T6.out.tape, T6.out.output, T6.out.size, T6.out.block⟩⟩

end Go.Proofs.Qxb6614661aR
