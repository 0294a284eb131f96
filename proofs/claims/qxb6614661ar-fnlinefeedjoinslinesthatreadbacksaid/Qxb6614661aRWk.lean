import Derived.Test.Qxb6614661aRWj
namespace Go.Proofs.Qxb6614661aR
open Go.RowKit

theorem make120 (w : World) : (Instr.makeSlice 120 (.int .i64 0) (.int .i64 64)).run Try.prog w =
    .ok (.slice (some ⟨w.heap.size, 0, none⟩) 0 64) (w.alloc (.cells (madeCells #[.int .i32 0] 64) 21)) := by
  obtain ⟨i0, hi, hz0, hz1, hz2⟩ := info_parts info21
  have := run_make w (P := Try.prog) 120 21 i0 (.int .i32 0) Try.underlying120 hi hz0 .i64 .i64 0 64 (by omega) (by omega) (by rw [hz2]; omega) (by omega)
  rw [this, hz1]
  simp [Value.cells]

set_option maxRecDepth 100000 in
set_option maxHeartbeats 400000 in
theorem w62 (g c U : Nat) (rs : List Nat) (w : World) (hr : ∀ r ∈ rs, scalar r) (hU : (unitsL rs).length = U) (hm : rs.length ≤ 2097152) (hg : g < w.heap.size) (hrow : Row .u16 w g 0 (unitsL rs)) :
    Calls Try.prog 62 #[.slice (some ⟨g, 0, none⟩) U c] w fun e w' => ∃ v', e = .returned v' ∧ w'.ownsRow w.heap.size 21 1 v' rs.length (i32s rs) ∧ Below w.heap.size w w' := by
  have hmk := make120
  have H65 := w65 w.heap.size g c U (.slice (some ⟨w.heap.size, 0, none⟩) 0 64) rs (w.alloc (.cells (madeCells #[.int .i32 0] 64) 21)) hr hU hm hg (by simp) (hrow.alloc hg _)
    (World.ownsRow_made w _ 64 (Nat.le_refl _) (by unfold maxLen; omega) (by rw [size_madeCells]))
  clear hr hU hm hrow
  go_enter Try.func62, Try.ntmps62
  go_wp2_with (go_at_call 65; refine H65.mono ?_; rintro e w1 ⟨v', rfl, h1, h2⟩)
  go_ret
  exact ⟨_, rfl, h1, ((Below.refl _ _).alloc (Nat.le_refl _) _).trans h2⟩

theorem runesBytes_data (rs : List Nat) (hr : ∀ r ∈ rs, scalar r) : (runesBytes (ints rs)).data.toList = rs.flatMap encL := by
  have h : ∀ (xs : List Nat) (s : ByteArray), (∀ r ∈ xs, scalar r) → ((ints xs).foldl (fun r n => r ++ Utf8.encode n) s).data.toList = s.data.toList ++ xs.flatMap encL := by
    intro xs
    induction xs with
    | nil => intro s _; simp [ints]
    | cons x xs ih =>
      intro s hx
      have e : ints (x :: xs) = (x : Int) :: ints xs := rfl
      rw [e, List.foldl_cons, ih _ (fun r hr => hx r (by simp [hr]))]
      have e2 : (s ++ Utf8.encode (x : Int)).data.toList = s.data.toList ++ encL x := by
        rw [ByteArray.data_append, Array.toList_append, encode_data (hx x (by simp))]
      rw [e2]
      simp
  have := h rs ByteArray.empty hr
  simpa [runesBytes] using this

theorem bytes_ext {a b : ByteArray} (h : a.data.toList = b.data.toList) : a = b := by
  cases a; cases b
  simp at h
  simp [h]

/-- string(runes) of the code points of s is s. -/
theorem conv_back (s : ByteArray) (rs : List Nat) (hr : ∀ r ∈ rs, scalar r) (hs : s.data.toList = rs.flatMap encL) (B : Nat) (v : Value) (w : World) (hown : w.ownsRow B 21 1 v rs.length (i32s rs)) :
    (convert 120 9 v).run Try.prog w = .ok (.string s) w := by
  have hb : runesBytes (ints rs) = s := bytes_ext (by rw [runesBytes_data rs hr, hs])
  rcases hown.2 with ⟨rfl, h0⟩ | ⟨g, cap, cur, rfl, _, hh, hnc, _, hcs, htk⟩
  · obtain rfl : rs = [] := List.eq_nil_of_length_eq_zero h0
    rw [run_convert_runes_nil w 120 9 21 0 0 Try.underlying120 Try.underlying21 Try.underlying9, ← hb]
    rfl
  · have hc := run_convert_runes (P := Try.prog) w 120 9 21 ⟨g, 0, none⟩ rs.length cap (ints rs) (by simp [ints]) Try.underlying120 Try.underlying21 Try.underlying9 (by
      intro j hj
      have hj' : j < rs.length := by simpa [ints] using hj
      have := hown.cellAt j (by simpa using hj')
      have hadd : (⟨g, 0, none⟩ : Addr).add j = ⟨g, j, none⟩ := by unfold Addr.add; split <;> simp_all
      rw [hadd, this]
      simp [i32s, ints, List.getElem?_eq_getElem hj'])
    rw [hc, List.take_of_length_le (by simp [ints]), hb]

end Go.Proofs.Qxb6614661aR
