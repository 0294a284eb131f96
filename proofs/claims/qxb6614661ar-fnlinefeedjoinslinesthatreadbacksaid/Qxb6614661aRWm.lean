import Derived.Test.Qxb6614661aRWl
import Derived.Test.Qxb6614661aRWb
namespace Go.Proofs.Qxb6614661aR
open Go.RowKit

set_option maxHeartbeats 400000 in
theorem w25 (p q : Bool) (n : Int) (a b : ByteArray) (w : World) (ha : a.size ≤ maxLen) (hb : b.size ≤ maxLen) :
    Calls Try.prog 25 #[.bool p, .bool q, .int .i64 n, .string a, .string b] w fun e w' => (e = .returned (.bool (decide (a.size + b.size ≤ 1048576)))) ∧ w' = w := by
  unfold maxLen at ha hb
  by_cases h1 : a.size ≤ 1048576
  · by_cases h2 : b.size ≤ 1048576
    · by_cases h3 : a.size + b.size ≤ 1048576
      · rw [decide_eq_true h3]
        go_enter Try.func25, Try.ntmps25
        go_wp2
        go_ret
        exact ⟨rfl, rfl⟩
      · rw [decide_eq_false h3]
        go_enter Try.func25, Try.ntmps25
        go_wp2
        go_ret
        exact ⟨rfl, rfl⟩
    · rw [decide_eq_false (by omega)]
      go_enter Try.func25, Try.ntmps25
      go_wp2
      go_ret
      exact ⟨rfl, rfl⟩
  · rw [decide_eq_false (by omega)]
    go_enter Try.func25, Try.ntmps25
    go_wp2
    go_ret
    exact ⟨rfl, rfl⟩

set_option maxHeartbeats 400000 in
theorem w21 (p q : Bool) (n : Int) (a : ByteArray) (w : World) (ha : a.size ≤ maxLen) :
    Calls Try.prog 21 #[.bool p, .bool q, .int .i64 n, .string a] w fun e w' => (e = .returned (.bool (decide (a.size ≤ 1048576)))) ∧ w' = w := by
  unfold maxLen at ha
  by_cases h1 : a.size ≤ 1048576
  · rw [decide_eq_true h1]
    go_enter Try.func21, Try.ntmps21
    go_wp2
    go_ret
    exact ⟨rfl, rfl⟩
  · rw [decide_eq_false (by omega)]
    go_enter Try.func21, Try.ntmps21
    go_wp2
    go_ret
    exact ⟨rfl, rfl⟩

/-- copy(data[o:], src) into a row of N cells of the call's own. -/
theorem put_at (w : World) (D o N b c : Nat) (L : List Int) (hown : Own w D 5 N) (ho : o + L.length ≤ N) (hsrc : Row .u8 w b 0 L) :
    ∃ ob w', (∀ wx, (Instr.slice 43 (.slice (some ⟨D, 0, none⟩) N N) (some (.int .i64 (o : Int))) none none).run Try.prog wx = .ok (.slice (some ⟨D, ob, none⟩) (N - o) (N - o)) wx) ∧
      (Builtin.copy_ #[43, 43] 3 #[.slice (some ⟨D, ob, none⟩) (N - o) (N - o), .slice (some ⟨b, 0, none⟩) L.length c]).run Try.prog w = .ok (goInt L.length) w' ∧ Own w' D 5 N ∧
      (∀ pre, pre.length = o → Row .u8 w D 0 pre → Row .u8 w' D 0 (pre ++ L)) ∧ (∀ g' ys, g' ≠ D → Row .u8 w g' 0 ys → Row .u8 w' g' 0 ys) ∧ (∀ B w0, Below B w0 w → B ≤ D → Below B w0 w') := by
  by_cases h : o = N
  · subst h
    obtain rfl : L = [] := List.eq_nil_of_length_eq_zero (by omega)
    obtain ⟨w', hrun, own', row', kept, bel⟩ := copy43 w D 0 (o - o) (o - o) b 0 c o [] hown (Row.nil _ _ _ _) (by simp) (by simp)
    refine ⟨0, w', fun wx => ?_, hrun, own', fun pre _ hr => ?_, fun g' ys hne hr => kept _ _ _ hr (Or.inl hne), bel⟩
    · rw [Nat.sub_self]; exact slice43_end D 0 o wx
    · rw [List.append_nil]; exact kept _ _ _ hr (by simp)
  · obtain ⟨w', hrun, own', row', kept, bel⟩ := copy43 w D o (N - o) (N - o) b 0 c N L hown hsrc ho (by omega)
    refine ⟨o, w', fun wx => ?_, hrun, own', fun pre hp hr => ?_, fun g' ys hne hr => kept _ _ _ hr (Or.inl hne), bel⟩
    · have := slice43_at D 0 N N o (by omega) (by omega) wx
      rw [Nat.zero_add] at this
      exact this
    · refine (kept _ _ _ hr (by omega)).append ?_
      rw [hp, Nat.zero_add]
      exact row'

theorem encB_len (wide big : Bool) (a : ByteArray) (ra : List Nat) (ha : a.size ≤ 1048576) (h : wide = true → a.data.toList = ra.flatMap encL) : (encB wide big a ra).length ≤ 4194304 := by
  cases wide
  · show (byteInts a).length ≤ _
    rw [byteInts_length]; omega
  · have h1 := flat_len ra
    rw [← h rfl, ← size_toList] at h1
    have h2 := unitsL_len ra
    show (wideBytes big (unitsL ra)).length ≤ _
    rw [wideBytes_length]
    omega

theorem pack5 (wide big : Bool) (bom : Nat) (s : ByteArray) (rs : List Nat) (hS : s.size ≤ 1048576) (hw : wide = true → (∀ r ∈ rs, scalar r) ∧ s.data.toList = rs.flatMap encL) :
    ∃ L : List Int, (∀ w, Calls Try.prog 17 #[.bool wide, .bool big, .int .i64 (bom : Int), .string s] w (Gives L w)) ∧
      (∀ (bom g n : Nat) (pre : List Int) (w : World), bom ≤ 3 → pre.length = bom → n = bom + L.length → g < w.heap.size → Row .u8 w g 0 (pre ++ L) →
        Calls Try.prog 22 #[.bool wide, .bool big, .int .i64 (bom : Int), .slice (some ⟨g, 0, none⟩) n n] w fun e w' => e = .returned (.string s) ∧ Below w.heap.size w w') ∧
      L.length ≤ 4194304 :=
  ⟨encB wide big s rs, fun w => w17 wide big bom s rs w hw hS, fun bom g n pre w hb hp hn hg hrow => w22 wide big bom g n pre s rs w hw hb (by omega) hp hn hg hrow, encB_len wide big s rs hS (fun h => (hw h).2)⟩

set_option maxRecDepth 100000 in
set_option maxHeartbeats 1000000 in
theorem walk5n (big : Bool) (bomI : Int) (s : ByteArray) (hs : s.size ≤ maxLen) (w : World) :
    Calls Try.prog 5 #[.bool false, .bool big, .int .i64 bomI, .string s] w fun e w' => e = .returned (.bool true) ∧ Below w.heap.size w w' := by
  have H21 := fun w => (w21 false big bomI s w hs).mono (fun e w' h => (⟨h.1, h.2.symm⟩ : e = _ ∧ w = w'))
  by_cases hsum : s.size ≤ 1048576
  · have hd : decide (s.size ≤ 1048576) = true := by simpa using hsum
    rw [hd] at H21
    have H16 := hidj (fun w => w16 s w hs)
    clear hd hs
    by_cases hb0 : bomI < 0
    · go_enter Try.func5, Try.ntmps5
      go_wp2_with (go_at_call 21; refine (H21 _).mono ?_; rintro e w' ⟨rfl, rfl⟩)
      go_ret
      exact ⟨rfl, Below.refl _ _⟩
    by_cases hb3 : 3 < bomI
    · go_enter Try.func5, Try.ntmps5
      go_wp2_with (go_at_call 21; refine (H21 _).mono ?_; rintro e w' ⟨rfl, rfl⟩)
      go_ret
      exact ⟨rfl, Below.refl _ _⟩
    obtain ⟨bom, rfl⟩ := Int.eq_ofNat_of_zero_le (show 0 ≤ bomI by omega)
    have hbb : bom ≤ 3 := by omega
    clear hb0 hb3
    go_enter Try.func5, Try.ntmps5
    go_wp2_with (go_at_call 21; refine (H21 _).mono ?_; rintro e w' ⟨rfl, rfl⟩)
    obtain ⟨L, H17, H22, hlen⟩ := pack5 false big bom s [] hsum (by simp)
    have P1 := hidj H17
    have P2 := hidj H22
    clear H17 H22
    obtain ⟨n, HN⟩ : ∃ n, Hid (L.length = n) := ⟨_, rfl⟩
    rw [HN.out] at hlen
    have hmk := fun w => make43 (bom + n) (by omega) w
    rw [show ((bom + n : Nat) : Int) = (bom : Int) + (n : Int) by omega] at hmk
    go_wp2_with fail
    refine (P1.out _).mono ?_
    rintro e w1 ⟨g1, c1, rfl, r1, l1, s1, b1⟩
    rw [HN.out]
    have R1 := hidj r1
    have B1 := hidj b1
    clear r1 b1
    go_wp2_with fail
    go_loopw [11] (fun i wr => ∃ k : Nat, k ≤ bom ∧ i = .int .i64 k ∧ Own wr w1.heap.size 5 (bom + n) ∧ Hid (Row .u8 wr w1.heap.size 0 (List.replicate k 255)) ∧ Hid (Below w1.heap.size w1 wr)) (fun i _ => bom - (intOf i).toNat)
    case atStart => exact ⟨0, Nat.zero_le _, rfl, own_made w1 _ _ _, Row.nil _ _ _ _, (Below.refl _ _).alloc (Nat.le_refl _) _⟩
    case round =>
      obtain ⟨k, hk, rfl, hown, hrow, hbel⟩ := hrel
      by_cases hlt : k < bom
      · obtain ⟨v0, hv0⟩ := hown.cell k (by omega)
        have hf := hown.frozen k
        go_wp2_with fail
        go_roundw
        case rel =>
          refine ⟨k + 1, by omega, by go_num, hown.setCell _ _, ?_, hbel.out.setCell (Nat.le_refl _) _⟩
          have := hrow.out.snoc hown (by rw [List.length_replicate]; omega) 255
          rw [List.length_replicate, Nat.zero_add, ← List.replicate_succ'] at this
          exact this
        case measure => simp [intOf]; omega
      · obtain rfl : k = bom := by omega
        obtain ⟨ob, w2, hsl, hcp, own2, rows2, kept2, bel2⟩ := put_at wr w1.heap.size k (k + n) g1 c1 L hown (by rw [HN.out]; exact Nat.le_refl _) (R1.out.below hbel.out s1)
        have hrow2 := rows2 _ List.length_replicate hrow.out
        have hb2 := bel2 _ _ hbel.out (Nat.le_refl _)
        have HC := P2.out k w1.heap.size (k + n) (List.replicate k 255) w2 (by omega) List.length_replicate (by rw [HN.out]) own2.lt hrow2
        have HB2 : Hid (Below w.heap.size w w2) := B1.out.trans (hb2.mono B1.out.size)
        rw [HN.out, show k + n - k = n by omega] at hcp
        rw [show k + n - k = n by omega] at hsl
        clear own2 rows2 kept2 bel2 hrow2 hb2 hrow hbel hown
        go_wp2_with fail
        refine HC.mono ?_
        rintro e w3 ⟨rfl, b3⟩
        have HB3 : Hid (Below w.heap.size w w3) := HB2.out.trans (b3.mono HB2.out.size)
        clear b3 HC
        go_wp2_with fail
        go_ret
        exact ⟨by simp, HB3.out⟩
  · have hd : decide (s.size ≤ 1048576) = false := by simpa using hsum
    rw [hd] at H21
    clear hd hs
    go_enter Try.func5, Try.ntmps5
    go_wp2_with (go_at_call 21; refine (H21 _).mono ?_; rintro e w' ⟨rfl, rfl⟩)
    go_ret
    exact ⟨rfl, Below.refl _ _⟩

set_option maxRecDepth 100000 in
set_option maxHeartbeats 1000000 in
theorem walk5w (big : Bool) (bomI : Int) (s : ByteArray) (hs : s.size ≤ maxLen) (w : World) :
    Calls Try.prog 5 #[.bool true, .bool big, .int .i64 bomI, .string s] w fun e w' => e = .returned (.bool true) ∧ Below w.heap.size w w' := by
  have H21 := fun w => (w21 true big bomI s w hs).mono (fun e w' h => (⟨h.1, h.2.symm⟩ : e = _ ∧ w = w'))
  by_cases hsum : s.size ≤ 1048576
  · have hd : decide (s.size ≤ 1048576) = true := by simpa using hsum
    rw [hd] at H21
    have H16 := hidj (fun w => w16 s w hs)
    clear hd hs
    by_cases hb0 : bomI < 0
    · go_enter Try.func5, Try.ntmps5
      go_wp2_with (go_at_call 21; refine (H21 _).mono ?_; rintro e w' ⟨rfl, rfl⟩)
      go_ret
      exact ⟨rfl, Below.refl _ _⟩
    by_cases hb3 : 3 < bomI
    · go_enter Try.func5, Try.ntmps5
      go_wp2_with (go_at_call 21; refine (H21 _).mono ?_; rintro e w' ⟨rfl, rfl⟩)
      go_ret
      exact ⟨rfl, Below.refl _ _⟩
    obtain ⟨bom, rfl⟩ := Int.eq_ofNat_of_zero_le (show 0 ≤ bomI by omega)
    have hbb : bom ≤ 3 := by omega
    clear hb0 hb3
    go_enter Try.func5, Try.ntmps5
    go_wp2_with (go_at_call 21; refine (H21 _).mono ?_; rintro e w' ⟨rfl, rfl⟩)
    refine (H16.out _).mono ?_
    rintro e w' ⟨va, rfl, hw', hva⟩
    cases hw'.symm
    clear hw'
    cases va
    · clear hva
      go_wp2_with fail
      go_ret
      exact ⟨rfl, Below.refl _ _⟩
    obtain ⟨ra, hra, hsa⟩ := hva rfl
    have HWA : Hid ((∀ r ∈ ra, scalar r) ∧ s.data.toList = ra.flatMap encL) := ⟨hra, by rw [← hsa, List.take_of_length_le (by rw [size_toList]; exact Nat.le_refl _)]⟩
    clear hra hsa hva
    obtain ⟨L, H17, H22, hlen⟩ := pack5 true big bom s ra hsum (fun _ => HWA.out)
    have P1 := hidj H17
    have P2 := hidj H22
    clear H17 H22
    obtain ⟨n, HN⟩ : ∃ n, Hid (L.length = n) := ⟨_, rfl⟩
    rw [HN.out] at hlen
    have hmk := fun w => make43 (bom + n) (by omega) w
    rw [show ((bom + n : Nat) : Int) = (bom : Int) + (n : Int) by omega] at hmk
    go_wp2_with fail
    refine (P1.out _).mono ?_
    rintro e w1 ⟨g1, c1, rfl, r1, l1, s1, b1⟩
    rw [HN.out]
    have R1 := hidj r1
    have B1 := hidj b1
    clear r1 b1
    go_wp2_with fail
    go_loopw [11] (fun i wr => ∃ k : Nat, k ≤ bom ∧ i = .int .i64 k ∧ Own wr w1.heap.size 5 (bom + n) ∧ Hid (Row .u8 wr w1.heap.size 0 (List.replicate k 255)) ∧ Hid (Below w1.heap.size w1 wr)) (fun i _ => bom - (intOf i).toNat)
    case atStart => exact ⟨0, Nat.zero_le _, rfl, own_made w1 _ _ _, Row.nil _ _ _ _, (Below.refl _ _).alloc (Nat.le_refl _) _⟩
    case round =>
      obtain ⟨k, hk, rfl, hown, hrow, hbel⟩ := hrel
      by_cases hlt : k < bom
      · obtain ⟨v0, hv0⟩ := hown.cell k (by omega)
        have hf := hown.frozen k
        go_wp2_with fail
        go_roundw
        case rel =>
          refine ⟨k + 1, by omega, by go_num, hown.setCell _ _, ?_, hbel.out.setCell (Nat.le_refl _) _⟩
          have := hrow.out.snoc hown (by rw [List.length_replicate]; omega) 255
          rw [List.length_replicate, Nat.zero_add, ← List.replicate_succ'] at this
          exact this
        case measure => simp [intOf]; omega
      · obtain rfl : k = bom := by omega
        obtain ⟨ob, w2, hsl, hcp, own2, rows2, kept2, bel2⟩ := put_at wr w1.heap.size k (k + n) g1 c1 L hown (by rw [HN.out]; exact Nat.le_refl _) (R1.out.below hbel.out s1)
        have hrow2 := rows2 _ List.length_replicate hrow.out
        have hb2 := bel2 _ _ hbel.out (Nat.le_refl _)
        have HC := P2.out k w1.heap.size (k + n) (List.replicate k 255) w2 (by omega) List.length_replicate (by rw [HN.out]) own2.lt hrow2
        have HB2 : Hid (Below w.heap.size w w2) := B1.out.trans (hb2.mono B1.out.size)
        rw [HN.out, show k + n - k = n by omega] at hcp
        rw [show k + n - k = n by omega] at hsl
        clear own2 rows2 kept2 bel2 hrow2 hb2 hrow hbel hown
        go_wp2_with fail
        refine HC.mono ?_
        rintro e w3 ⟨rfl, b3⟩
        have HB3 : Hid (Below w.heap.size w w3) := HB2.out.trans (b3.mono HB2.out.size)
        clear b3 HC
        go_wp2_with fail
        go_ret
        exact ⟨by simp, HB3.out⟩
  · have hd : decide (s.size ≤ 1048576) = false := by simpa using hsum
    rw [hd] at H21
    clear hd hs
    go_enter Try.func5, Try.ntmps5
    go_wp2_with (go_at_call 21; refine (H21 _).mono ?_; rintro e w' ⟨rfl, rfl⟩)
    go_ret
    exact ⟨rfl, Below.refl _ _⟩

end Go.Proofs.Qxb6614661aR
