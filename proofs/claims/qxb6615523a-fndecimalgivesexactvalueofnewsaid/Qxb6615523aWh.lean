import Derived.Test.Qxb6615523aWg
namespace Go.Proofs.Qxb6615523a
open Go.RowKit

theorem Big.drew {w : World} {C p : Nat} {sg : Bool} {m : Int} (h : Big w C p sg m) : Big w.drew C p sg m := h

set_option maxHeartbeats 400000 in
theorem w6 (c : Int) (ng : Bool) (w : World) : Calls Try.prog 6 #[.int .u64 c, .bool ng] w fun e w' => e = .returned (.int .i64 (sgn ng c)) ∧ w = w' := by
  by_cases hc : c = 0
  · subst hc
    go_enter Try.func6, Try.ntmps6
    go_wp2
    go_ret
    exact ⟨rfl, rfl⟩
  · have hb : (c == 0) = false := by simp [hc]
    cases ng
    · have e : sgn false c = 1 := by simp [sgn, hc]
      rw [e]
      go_enter Try.func6, Try.ntmps6
      go_wp2
      go_ret
      exact ⟨rfl, rfl⟩
    · have e : sgn true c = -1 := by simp [sgn, hc]
      rw [e]
      go_enter Try.func6, Try.ntmps6
      go_wp2
      go_ret
      exact ⟨rfl, rfl⟩

set_option maxHeartbeats 400000 in
theorem w7 (c x : Int) (w : World) : Calls Try.prog 7 #[.int .u64 c, .int .i32 x] w fun e w' => e = .returned (.agg #[.int .u64 0, .int .u64 c, .int .i32 x, .bool false, .pointer none]) ∧ Below w.heap.size w w' := by
  go_enter Try.func7, Try.ntmps7
  go_wp2
  exact bodyPost_ret (v := .agg #[.int .u64 0, .int .u64 c, .int .i32 x, .bool false, .pointer none]) (by simp [results, Try.results7, go_sem]) rfl ⟨rfl, (Below.refl _ _).alloc (Nat.le_refl _) _⟩

theorem bsc {B d j : Nat} {a w : World} {v : Value} (h : Below B a w) (hd : B ≤ d) : Below B a (w.setCell ⟨d, j, none⟩ v) := h.setCell (p := ⟨d, j, none⟩) hd v

/-- is c not zero? -/
def nz (c : Int) : Bool := decide (c ≠ 0)

set_option maxHeartbeats 400000 in
theorem w19 (c x : Int) (w : World) : Calls Try.prog 19 #[.agg #[.int .u64 0, .int .u64 c], .int .i32 x, .bool true] w fun e w' => e = .returned (.agg #[.int .u64 0, .int .u64 c, .int .i32 x, .bool (nz c), .pointer none]) ∧ Below w.heap.size w w' := by
  by_cases hc : c = 0
  · have e : nz c = false := by simp [nz, hc]
    rw [e]
    clear e
    subst hc
    go_enter Try.func19, Try.ntmps19
    go_wp2
    go_region
    all_goals go_wp2
    all_goals exact bodyPost_ret (v := .agg #[.int .u64 0, .int .u64 0, .int .i32 x, .bool false, .pointer none]) (by simp [results, Try.results19, go_sem]) rfl ⟨rfl, (((Below.refl _ _).alloc (Nat.le_refl _) _).alloc (by simp) _).drew⟩
  · have e : nz c = true := by simp [nz, hc]
    rw [e]
    clear e
    go_enter Try.func19, Try.ntmps19
    go_wp2
    go_region
    all_goals go_wp2
    all_goals exact bodyPost_ret (v := .agg #[.int .u64 0, .int .u64 c, .int .i32 x, .bool true, .pointer none]) (by simp [results, Try.results19, go_sem]) rfl ⟨rfl, (((Below.refl _ _).alloc (Nat.le_refl _) _).alloc (by simp) _).drew⟩

set_option maxHeartbeats 400000 in
theorem w8 (c x : Int) (w : World) : Calls Try.prog 8 #[.agg #[.int .u64 0, .int .u64 c, .int .i32 x, .bool false, .pointer none]] w fun e w' => e = .returned (.agg #[.int .u64 0, .int .u64 c, .int .i32 x, .bool (nz c), .pointer none]) ∧ Below w.heap.size w w' := by
  have H16 := hid (fun w => w16 0 c x false w)
  have H19 := hid (fun w => w19 c x w)
  go_enter Try.func8, Try.ntmps8
  go_wp2_with fail
  refine (H16.out _).mono ?_
  rintro e w1 ⟨rfl, rfl⟩
  go_wp2_with fail
  refine (H19.out _).mono ?_
  rintro e w1 ⟨rfl, h3⟩
  have hn := second h3 (by simp)
  have hz : w.heap.size + 1 < w1.heap.size := lt_of hn
  have c0 : w1.cell? ⟨w.heap.size + 1, 0, none⟩ = some (.int .u64 0) := by rw [cell_of hn]; rfl
  have c1 : w1.cell? ⟨w.heap.size + 1, 1, none⟩ = some (.int .u64 0) := by rw [cell_of hn]; rfl
  have c2 : w1.cell? ⟨w.heap.size + 1, 2, none⟩ = some (.int .i32 0) := by rw [cell_of hn]; rfl
  have c3 : w1.cell? ⟨w.heap.size + 1, 3, none⟩ = some (.bool false) := by rw [cell_of hn]; rfl
  have c4 : w1.cell? ⟨w.heap.size + 1, 4, none⟩ = some (.pointer none) := by rw [cell_of hn]; rfl
  have hf := fun j => free_of hn j
  have HB : Hid (Below w.heap.size w w1) := ((((Below.refl _ _).alloc (Nat.le_refl _) _).alloc (by simp) _).alloc (by simp; omega) _).trans (h3.mono (by simp; omega))
  clear h3 hn H16 H19
  go_wp2_with fail
  exact bodyPost_ret (v := .agg #[.int .u64 0, .int .u64 c, .int .i32 x, .bool (nz c), .pointer none]) (by simp [results, Try.results8, go_sem, c0, c1, c2, c3, c4]) rfl
    ⟨rfl, bsc (bsc (bsc (bsc (bsc HB.out (by omega)) (by omega)) (by omega)) (by omega)) (by omega)⟩

set_option maxHeartbeats 400000 in
theorem w4 (c x : Int) (ng : Bool) (w : World) : Calls Try.prog 4 #[.int .u64 c, .int .i32 x, .bool ng] w fun e w' => e = .returned (.agg #[.int .u64 0, .int .u64 c, .int .i32 x, .bool (ng && nz c), .pointer none]) ∧ Below w.heap.size w w' := by
  have H7 := hid (fun w => w7 c x w)
  have H8 := hid (fun w => w8 c x w)
  cases ng
  · go_enter Try.func4, Try.ntmps4
    go_wp2_with fail
    refine (H7.out _).mono ?_
    rintro e w1 ⟨rfl, h3⟩
    have hn := newblk h3
    have hz : w.heap.size < w1.heap.size := lt_of hn
    have hzn : ¬ w.heap.size = w1.heap.size := by omega
    have c0 : w1.cell? ⟨w.heap.size, 0, none⟩ = some (.int .u64 0) := by rw [cell_of hn]; rfl
    have c1 : w1.cell? ⟨w.heap.size, 1, none⟩ = some (.int .u64 0) := by rw [cell_of hn]; rfl
    have c2 : w1.cell? ⟨w.heap.size, 2, none⟩ = some (.int .i32 0) := by rw [cell_of hn]; rfl
    have c3 : w1.cell? ⟨w.heap.size, 3, none⟩ = some (.bool false) := by rw [cell_of hn]; rfl
    have c4 : w1.cell? ⟨w.heap.size, 4, none⟩ = some (.pointer none) := by rw [cell_of hn]; rfl
    have hf := fun j => free_of hn j
    have HB : Hid (Below w.heap.size w w1) := ((Below.refl _ _).alloc (Nat.le_refl _) _).trans (h3.mono (by simp))
    clear h3 hn H7 H8
    go_wp2_with fail
    exact bodyPost_ret (v := .agg #[.int .u64 0, .int .u64 c, .int .i32 x, .bool false, .pointer none]) (by simp [results, Try.results4, go_sem, c0, c1, c2, c3, c4, hz]) rfl
      ⟨rfl, (bsc (bsc (bsc (bsc (bsc HB.out (Nat.le_refl _)) (Nat.le_refl _)) (Nat.le_refl _)) (Nat.le_refl _)) (Nat.le_refl _)).alloc (by simp [World.setCell]; omega) _⟩
  · go_enter Try.func4, Try.ntmps4
    go_wp2_with fail
    refine (H7.out _).mono ?_
    rintro e w1 ⟨rfl, h3⟩
    have hn := newblk h3
    have hz : w.heap.size < w1.heap.size := lt_of hn
    have HB : Hid (Below w.heap.size w w1) := ((Below.refl _ _).alloc (Nat.le_refl _) _).trans (h3.mono (by simp))
    clear h3 H7
    have HN := hid hn
    clear hn
    go_wp2_with fail
    refine (H8.out _).mono ?_
    rintro e w2 ⟨rfl, h3⟩
    have hv := newblk h3
    have hn : w2.heap[w.heap.size]? = _ := (h3.block w.heap.size (by simp; omega)).trans ((Below.heap_alloc _ _ _ hz).trans HN.out)
    have hz2 : w1.heap.size < w2.heap.size := lt_of hv
    have hzn : ¬ w.heap.size = w1.heap.size := by omega
    have hzn2 : ¬ w1.heap.size = w.heap.size := by omega
    have c0 : w2.cell? ⟨w.heap.size, 0, none⟩ = some (.int .u64 0) := by rw [cell_of hn]; rfl
    have c1 : w2.cell? ⟨w.heap.size, 1, none⟩ = some (.int .u64 0) := by rw [cell_of hn]; rfl
    have c2 : w2.cell? ⟨w.heap.size, 2, none⟩ = some (.int .i32 0) := by rw [cell_of hn]; rfl
    have c3 : w2.cell? ⟨w.heap.size, 3, none⟩ = some (.bool false) := by rw [cell_of hn]; rfl
    have c4 : w2.cell? ⟨w.heap.size, 4, none⟩ = some (.pointer none) := by rw [cell_of hn]; rfl
    have v0 : w2.cell? ⟨w1.heap.size, 0, none⟩ = some (.int .u64 0) := by rw [cell_of hv]; rfl
    have v1 : w2.cell? ⟨w1.heap.size, 1, none⟩ = some (.int .u64 c) := by rw [cell_of hv]; rfl
    have v2 : w2.cell? ⟨w1.heap.size, 2, none⟩ = some (.int .i32 x) := by rw [cell_of hv]; rfl
    have v3 : w2.cell? ⟨w1.heap.size, 3, none⟩ = some (.bool false) := by rw [cell_of hv]; rfl
    have v4 : w2.cell? ⟨w1.heap.size, 4, none⟩ = some (.pointer none) := by rw [cell_of hv]; rfl
    have hf := fun j => free_of hn j
    have hg := fun j => free_of hv j
    have HB2 : Hid (Below w.heap.size w w2) := (HB.out.alloc (by omega) _).trans (h3.mono (by simp; omega))
    clear h3 hn hv HN H8 HB
    go_wp2_with fail
    exact bodyPost_ret (v := .agg #[.int .u64 0, .int .u64 c, .int .i32 x, .bool (nz c), .pointer none]) (by simp [results, Try.results4, go_sem, c0, c1, c2, c3, c4]) rfl
      ⟨by simp, bsc (bsc (bsc (bsc (bsc (bsc (bsc (bsc (bsc (bsc HB2.out (by omega)) (by omega)) (by omega)) (by omega)) (by omega)) (by omega)) (by omega)) (by omega)) (by omega)) (by omega)⟩

set_option maxHeartbeats 400000 in
theorem w5 (c x : Int) (sg : Bool) (w : World) (h0 : 0 ≤ c) (hs : sg = true → c ≠ 0) : Calls Try.prog 5 #[.agg #[.int .u64 0, .int .u64 c, .int .i32 x, .bool sg, .pointer none]] w fun e w' =>
    e = .returned (.tuple #[.int .i64 (sgn sg c), .int .u64 c, .bool true, .int .i32 x]) ∧ Below w.heap.size w w' := by
  have H9 := hid (fun w => w9 c x sg w h0 hs)
  clear hs
  go_enter Try.func5, Try.ntmps5
  go_wp2_with fail
  refine (H9.out _).mono ?_
  rintro e w1 ⟨p, rfl, hb1, b1⟩
  have HB1 : Hid (Below w.heap.size w w1) := ((Below.refl _ _).alloc (Nat.le_refl _) _).trans (b1.mono (by simp))
  have G1 := hid hb1
  clear b1 hb1 H9
  go_wp2_with fail
  refine (w10 p _ x sg c _ (G1.out.alloc _)).mono ?_
  rintro e w2 ⟨rfl, hb2, b2⟩
  have hD := newblk b2
  have B2 : Hid (Below w.heap.size w w2) := (HB1.out.alloc HB1.out.size _).trans (b2.mono (by simp; have := HB1.out.size; omega))
  simp only [World.size_alloc] at hb2 ⊢
  obtain ⟨q, HQ⟩ : ∃ q, Hid (w1.heap.size + 1 + 1 = q) := ⟨_, rfl⟩
  rw [HQ.out] at hb2 ⊢
  have hDq : w1.heap.size < q := by have := HQ.out; omega
  have hwq : w.heap.size ≤ q := by have := HQ.out; have := HB1.out.size; omega
  have HD := hid hD
  have H2 := hid hb2
  clear hD hb2 b2 G1
  go_wp2_with fail
  refine (w11 q q sg c w2 H2.out).mono ?_
  rintro e w3 ⟨rfl, rfl⟩
  go_wp2_with fail
  refine (w12 q q sg c w2 H2.out).mono ?_
  rintro e w3 ⟨rfl, hw3⟩
  have hb3 : Big w3 q q false c := by rw [hw3]; exact H2.out.turn false
  have hD3 : w3.heap[w1.heap.size]? = some (.cells #[.pointer (some ⟨p, 0, none⟩), .int .i32 x] 37 (0, 0)) := by
    rw [hw3, Below.heap_setCell _ _ _ _ (show w1.heap.size ≠ q by omega)]; exact HD.out
  have B3 : Hid (Below w.heap.size w w3) := by rw [hw3]; exact bsc B2.out hwq
  have d0 : w3.cell? ⟨w1.heap.size, 0, none⟩ = some (.pointer (some ⟨p, 0, none⟩)) := by rw [cell_of hD3]; rfl
  have d1 : w3.cell? ⟨w1.heap.size, 1, none⟩ = some (.int .i32 x) := by rw [cell_of hD3]; rfl
  have hl := lt_of hD3
  have H3 := hid hb3
  clear hw3 hb3 hD3 HD H2 B2 HB1
  go_wp2_with fail
  go_region_with (first
    | (go_at_call 13; refine (w13 q q false c _ ?_).mono ?_; (first | exact H3.out.drew | exact (H3.out.alloc _).drew); rintro e w4 ⟨rfl, rfl⟩)
    | (go_at_call 14; refine (w14 q q c _ ?_).mono ?_; (first | exact H3.out.drew | exact (H3.out.alloc _).drew); rintro e w4 ⟨rfl, rfl⟩)
    | (go_at_call 15; refine (w15 _ x (some ⟨p, 0, none⟩) _ rfl).mono ?_; rintro e w4 ⟨rfl, rfl⟩))
  all_goals go_wp2
  all_goals exact bodyPost_ret (v := .tuple #[.int .i64 (sgn sg c), .int .u64 c, .bool true, .int .i32 x]) (by simp [results, Try.results5, go_sem]) rfl ⟨rfl, (B3.out.alloc B3.out.size _).drew⟩

set_option maxHeartbeats 400000 in
theorem walk3 (c x : Int) (ng : Bool) (w : World) (h0 : 0 ≤ c) : Calls Try.prog 3 #[.int .u64 c, .int .i32 x, .bool ng] w fun e w' => e = .returned (.bool true) ∧ Below w.heap.size w w' := by
  have H4 := hid (fun w => w4 c x ng w)
  have H5 := hid (fun w => w5 c x (ng && nz c) w h0 (by intro h e; simp [nz, e] at h))
  have H6 := hid (fun w => w6 c ng w)
  have he : sgn (ng && nz c) c = sgn ng c := by
    by_cases hc : c = 0
    · simp [sgn, hc]
    · simp [sgn, hc, nz]
  rw [he] at H5
  obtain ⟨s, HS⟩ : ∃ s, Hid (sgn ng c = s) := ⟨_, rfl⟩
  rw [HS.out] at H5 H6
  obtain ⟨b, HBB⟩ : ∃ b, Hid ((ng && nz c) = b) := ⟨_, rfl⟩
  rw [HBB.out] at H4 H5
  clear he
  go_enter Try.func3, Try.ntmps3
  go_wp2_with fail
  refine (H4.out _).mono ?_
  rintro e w1 ⟨rfl, b1⟩
  have B1 := hid b1
  clear b1
  go_wp2_with fail
  refine (H5.out _).mono ?_
  rintro e w2 ⟨rfl, b2⟩
  have B2 : Hid (Below w.heap.size w w2) := (B1.out.alloc B1.out.size _).trans (b2.mono (by simp; have := B1.out.size; omega))
  clear b2
  go_wp2_with fail
  refine (H6.out _).mono ?_
  rintro e w3 ⟨rfl, rfl⟩
  go_wp2_with fail
  go_ret
  exact ⟨rfl, B2.out⟩

end Go.Proofs.Qxb6615523a
