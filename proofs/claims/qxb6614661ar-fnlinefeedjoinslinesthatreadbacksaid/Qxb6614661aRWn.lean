import Derived.Test.Qxb6614661aRWm
import Derived.Test.Qxb6614661aRWi
namespace Go.Proofs.Qxb6614661aR
open Go.RowKit

theorem data_app (a b : ByteArray) : (a ++ b).data.toList = a.data.toList ++ b.data.toList := by
  simp [ByteArray.data_append]

theorem size_app (a b : ByteArray) : (a ++ b).size = a.size + b.size := by
  rw [size_toList, data_app, List.length_append, ← size_toList, ← size_toList]

theorem byteInts_app (a b : ByteArray) : byteInts (a ++ b) = byteInts a ++ byteInts b := by
  unfold byteInts
  rw [data_app, List.map_append]

theorem encB_app (wide big : Bool) (a b : ByteArray) (ra rb : List Nat) : encB wide big (a ++ b) (ra ++ rb) = encB wide big a ra ++ encB wide big b rb := by
  cases wide
  · exact byteInts_app a b
  · show wideBytes big (unitsL (ra ++ rb)) = wideBytes big (unitsL ra) ++ wideBytes big (unitsL rb)
    rw [unitsL_app, wideBytes_app]

/-- what the law's walk wants of the callees, the encodings under names. -/
theorem pack7 (wide big : Bool) (bomI : Int) (a b : ByteArray) (ra rb : List Nat) (hA : a.size ≤ 1048576) (hB : b.size ≤ 1048576) (hAB : a.size + b.size ≤ 1048576)
    (hwa : wide = true → (∀ r ∈ ra, scalar r) ∧ a.data.toList = ra.flatMap encL) (hwb : wide = true → (∀ r ∈ rb, scalar r) ∧ b.data.toList = rb.flatMap encL) :
    ∃ L1 L2 L3 : List Int, (∀ w, Calls Try.prog 17 #[.bool wide, .bool big, .int .i64 bomI, .string a] w (Gives L1 w)) ∧ (∀ w, Calls Try.prog 24 #[.bool wide, .bool big, .int .i64 bomI] w (GivesO L2 w)) ∧
      (∀ w, Calls Try.prog 17 #[.bool wide, .bool big, .int .i64 bomI, .string b] w (Gives L3 w)) ∧
      (∀ (bom g n : Nat) (pre : List Int) (w : World), bom ≤ 3 → pre.length = bom → n = bom + (L1.length + L2.length + L3.length) → g < w.heap.size → Row .u8 w g 0 (pre ++ (L1 ++ L2 ++ L3)) →
        Calls Try.prog 22 #[.bool wide, .bool big, .int .i64 (bom : Int), .slice (some ⟨g, 0, none⟩) n n] w fun e w' => e = .returned (.string (a ++ ⟨#[10]⟩ ++ b)) ∧ Below w.heap.size w w') ∧
      L1.length ≤ 4194304 ∧ L2.length ≤ 2 ∧ L3.length ≤ 4194304 := by
  refine ⟨encB wide big a ra, nl wide big, encB wide big b rb, fun w => w17 wide big bomI a ra w hwa hA, fun w => w24 wide big bomI w, fun w => w17 wide big bomI b rb w hwb hB, ?_,
    encB_len wide big a ra hA (fun h => (hwa h).2), (nl_len wide big).2, encB_len wide big b rb hB (fun h => (hwb h).2)⟩
  intro bom g n pre w hb hp hn hg hrow
  have e : encB wide big (a ++ ⟨#[10]⟩ ++ b) (ra ++ [10] ++ rb) = encB wide big a ra ++ nl wide big ++ encB wide big b rb := by
    rw [encB_app, encB_app, encB_nl]
  rw [← e] at hrow
  refine w22 wide big bom g n pre (a ++ ⟨#[10]⟩ ++ b) (ra ++ [10] ++ rb) w (fun h => ⟨?_, ?_⟩) hb ?_ hp ?_ hg hrow
  · intro r hr
    rcases List.mem_append.1 hr with hr | hr
    · rcases List.mem_append.1 hr with hr | hr
      · exact (hwa h).1 r hr
      · simp at hr
        subst hr
        exact Or.inl (by decide)
    · exact (hwb h).1 r hr
  · rw [data_app, data_app, (hwa h).2, (hwb h).2, List.flatMap_append, List.flatMap_append]
    simp [encL1 (r := 10) (by decide)]
  · rw [size_app, size_app]
    have : (⟨#[10]⟩ : ByteArray).size = 1 := rfl
    omega
  · rw [e, List.length_append, List.length_append]
    exact hn

set_option maxRecDepth 100000 in
set_option maxHeartbeats 1000000 in
theorem walk7n (big : Bool) (bomI : Int) (a b : ByteArray) (ha : a.size ≤ maxLen) (hb : b.size ≤ maxLen) (w : World) :
    Calls Try.prog 7 #[.bool false, .bool big, .int .i64 bomI, .string a, .string b] w fun e w' => e = .returned (.bool true) ∧ Below w.heap.size w w' := by
  have H25 := fun w => (w25 false big bomI a b w ha hb).mono (fun e w' h => (⟨h.1, h.2.symm⟩ : e = _ ∧ w = w'))
  by_cases hsum : a.size + b.size ≤ 1048576
  · have hd : decide (a.size + b.size ≤ 1048576) = true := by simpa using hsum
    rw [hd] at H25
    have hA : a.size ≤ 1048576 := by omega
    have hB : b.size ≤ 1048576 := by omega
    have H16a : Hid (∀ w, Calls Try.prog 16 #[.string a] w (Post16 a w)) := fun w => w16 a w ha
    have H16b : Hid (∀ w, Calls Try.prog 16 #[.string b] w (Post16 b w)) := fun w => w16 b w hb
    clear hd ha hb
    by_cases hb0 : bomI < 0
    · go_enter Try.func7, Try.ntmps7
      go_wp2_with (go_at_call 25; refine (H25 _).mono ?_; rintro e w' ⟨rfl, rfl⟩)
      go_ret
      exact ⟨rfl, Below.refl _ _⟩
    by_cases hb3 : 3 < bomI
    · go_enter Try.func7, Try.ntmps7
      go_wp2_with (go_at_call 25; refine (H25 _).mono ?_; rintro e w' ⟨rfl, rfl⟩)
      go_ret
      exact ⟨rfl, Below.refl _ _⟩
    obtain ⟨bom, rfl⟩ := Int.eq_ofNat_of_zero_le (show 0 ≤ bomI by omega)
    have hbb : bom ≤ 3 := by omega
    clear hb0 hb3
    go_enter Try.func7, Try.ntmps7
    go_wp2_with (go_at_call 25; refine (H25 _).mono ?_; rintro e w' ⟨rfl, rfl⟩)
    obtain ⟨L1, L2, L3, H1, H2, H3, H22, hl1, hl2, hl3⟩ := pack7 false big (bom : Int) a b [] [] hA hB hsum (by simp) (by simp)
    have P1 := hidj H1
    have P2 := hidj H2
    have P3 := hidj H3
    have P4 := hidj H22
    clear H1 H2 H3 H22
    obtain ⟨n1, HN1⟩ : ∃ n, Hid (L1.length = n) := ⟨_, rfl⟩
    obtain ⟨n2, HN2⟩ : ∃ n, Hid (L2.length = n) := ⟨_, rfl⟩
    obtain ⟨n3, HN3⟩ : ∃ n, Hid (L3.length = n) := ⟨_, rfl⟩
    rw [HN1.out] at hl1
    rw [HN2.out] at hl2
    rw [HN3.out] at hl3
    have hmk := fun w => make43 (bom + n1 + n2 + n3) (by omega) w
    obtain ⟨N, HNN⟩ : ∃ N, Hid (bom + n1 + n2 + n3 = N) := ⟨_, rfl⟩
    rw [HNN.out] at hmk
    rw [show ((N : Nat) : Int) = (bom : Int) + (n1 : Int) + (n2 : Int) + (n3 : Int) by have := HNN.out; omega] at hmk
    go_wp2_with fail
    refine (P1.out _).mono ?_
    rintro e w1 ⟨g1, c1, rfl, r1, l1, s1, b1⟩
    rw [HN1.out]
    go_wp2_with fail
    refine (P2.out _).mono ?_
    rintro e w2 ⟨g2, c2, rfl, o2, r2, l2, b2⟩
    rw [HN2.out]
    have s2 := o2.lt
    have r1a := r1.below b2 s1
    have s1a : g1 < w2.heap.size := Nat.lt_of_lt_of_le s1 b2.size
    go_wp2_with fail
    refine (P3.out _).mono ?_
    rintro e w3 ⟨g3, c3, rfl, r3, l3, s3, b3⟩
    rw [HN3.out]
    have R1 := hidj (r1a.below b3 s1a)
    have R2 := hidj (r2.below b3 s2)
    have R3 := hidj r3
    have s1b : g1 < w3.heap.size := Nat.lt_of_lt_of_le s1a b3.size
    have s2b : g2 < w3.heap.size := Nat.lt_of_lt_of_le s2 b3.size
    have B3 : Hid (Below w.heap.size w w3) := (b1.trans (b2.mono b1.size)).trans (b3.mono (Nat.le_trans b1.size b2.size))
    clear r1 r2 r3 r1a o2 b1 b2 b3 l1 l2 l3
    go_wp2_with fail
    go_loopw [15] (fun i wr => ∃ k : Nat, k ≤ bom ∧ i = .int .i64 k ∧ Own wr w3.heap.size 5 N ∧ Hid (Row .u8 wr w3.heap.size 0 (List.replicate k 255)) ∧ Hid (Below w3.heap.size w3 wr)) (fun i _ => bom - (intOf i).toNat)
    case atStart => exact ⟨0, Nat.zero_le _, rfl, own_made w3 _ _ _, Row.nil _ _ _ _, (Below.refl _ _).alloc (Nat.le_refl _) _⟩
    case round =>
      obtain ⟨k, hk, rfl, hown, hrow, hbel⟩ := hrel
      by_cases hlt : k < bom
      · obtain ⟨v0, hv0⟩ := hown.cell k (by have := HNN.out; omega)
        have hf := hown.frozen k
        have hkN : k < N := by have := HNN.out; omega
        go_wp2_with fail
        go_roundw
        case rel =>
          refine ⟨k + 1, by omega, by go_num, hown.setCell _ _, ?_, hbel.out.setCell (Nat.le_refl _) _⟩
          have := hrow.out.snoc hown (by rw [List.length_replicate]; omega) 255
          rw [List.length_replicate, Nat.zero_add, ← List.replicate_succ'] at this
          exact this
        case measure => simp [intOf]; omega
      · obtain rfl : k = bom := by omega
        obtain ⟨ob1, w4, hsl1, hcp1, own4, rows4, kept4, bel4⟩ := put_at wr w3.heap.size k N g1 c1 L1 hown (by have := HNN.out; rw [HN1.out]; omega) (R1.out.below hbel.out s1b)
        have row4 := rows4 _ List.length_replicate hrow.out
        have rr2 := kept4 g2 L2 (by omega) (R2.out.below hbel.out s2b)
        have rr3 := kept4 g3 L3 (by omega) (R3.out.below hbel.out s3)
        obtain ⟨ob2, w5, hsl2, hcp2, own5, rows5, kept5, bel5⟩ := put_at w4 w3.heap.size (k + n1) N g2 c2 L2 own4 (by have := HNN.out; rw [HN2.out]; omega) rr2
        have row5 := rows5 _ (by rw [List.length_append, List.length_replicate, HN1.out]) row4
        have rr3b := kept5 g3 L3 (by omega) rr3
        obtain ⟨ob3, w6, hsl3, hcp3, own6, rows6, kept6, bel6⟩ := put_at w5 w3.heap.size (k + n1 + n2) N g3 c3 L3 own5 (by have := HNN.out; rw [HN3.out]; omega) rr3b
        have row6 := rows6 _ (by rw [List.length_append, List.length_append, List.length_replicate, HN1.out, HN2.out]) row5
        have b6 := bel6 _ _ (bel5 _ _ (bel4 _ _ hbel.out (Nat.le_refl _)) (Nat.le_refl _)) (Nat.le_refl _)
        have HC := P4.out k w3.heap.size N (List.replicate k 255) w6 (by omega) List.length_replicate (by have := HNN.out; rw [HN1.out, HN2.out, HN3.out]; omega) own6.lt (by rw [List.append_assoc, List.append_assoc] at row6; rw [List.append_assoc]; exact row6)
        have HB6 : Hid (Below w.heap.size w w6) := B3.out.trans (b6.mono B3.out.size)
        obtain ⟨M1, HM1⟩ : ∃ M, Hid (N - k = M) := ⟨_, rfl⟩
        obtain ⟨M2, HM2⟩ : ∃ M, Hid (N - (k + n1) = M) := ⟨_, rfl⟩
        obtain ⟨M3, HM3⟩ : ∃ M, Hid (N - (k + n1 + n2) = M) := ⟨_, rfl⟩
        rw [HM1.out] at hsl1 hcp1
        rw [HM2.out] at hsl2 hcp2
        rw [HM3.out] at hsl3 hcp3
        rw [HN1.out] at hcp1
        rw [HN2.out] at hcp2
        rw [HN3.out] at hcp3
        rw [show ((k + n1 : Nat) : Int) = (k : Int) + (n1 : Int) by omega] at hsl2
        rw [show ((k + n1 + n2 : Nat) : Int) = (k : Int) + (n1 : Int) + (n2 : Int) by omega] at hsl3
        clear own4 own5 own6 rows4 rows5 rows6 kept4 kept5 kept6 bel4 bel5 bel6 row4 row5 row6 rr2 rr3 rr3b b6 hrow hbel hown
        go_wp2_with fail
        refine HC.mono ?_
        rintro e w7 ⟨rfl, b7⟩
        have HB7 : Hid (Below w.heap.size w w7) := HB6.out.trans (b7.mono HB6.out.size)
        clear b7 HC
        go_wp2_with fail
        go_ret
        exact ⟨by simp, HB7.out⟩
  · have hd : decide (a.size + b.size ≤ 1048576) = false := by simpa using hsum
    rw [hd] at H25
    clear hd ha hb
    go_enter Try.func7, Try.ntmps7
    go_wp2_with (go_at_call 25; refine (H25 _).mono ?_; rintro e w' ⟨rfl, rfl⟩)
    go_ret
    exact ⟨rfl, Below.refl _ _⟩

set_option maxRecDepth 100000 in
set_option maxHeartbeats 1000000 in
theorem walk7w (big : Bool) (bomI : Int) (a b : ByteArray) (ha : a.size ≤ maxLen) (hb : b.size ≤ maxLen) (w : World) :
    Calls Try.prog 7 #[.bool true, .bool big, .int .i64 bomI, .string a, .string b] w fun e w' => e = .returned (.bool true) ∧ Below w.heap.size w w' := by
  have H25 := fun w => (w25 true big bomI a b w ha hb).mono (fun e w' h => (⟨h.1, h.2.symm⟩ : e = _ ∧ w = w'))
  by_cases hsum : a.size + b.size ≤ 1048576
  · have hd : decide (a.size + b.size ≤ 1048576) = true := by simpa using hsum
    rw [hd] at H25
    have hA : a.size ≤ 1048576 := by omega
    have hB : b.size ≤ 1048576 := by omega
    have H16a : Hid (∀ w, Calls Try.prog 16 #[.string a] w (Post16 a w)) := fun w => w16 a w ha
    have H16b : Hid (∀ w, Calls Try.prog 16 #[.string b] w (Post16 b w)) := fun w => w16 b w hb
    clear hd ha hb
    by_cases hb0 : bomI < 0
    · go_enter Try.func7, Try.ntmps7
      go_wp2_with (go_at_call 25; refine (H25 _).mono ?_; rintro e w' ⟨rfl, rfl⟩)
      go_ret
      exact ⟨rfl, Below.refl _ _⟩
    by_cases hb3 : 3 < bomI
    · go_enter Try.func7, Try.ntmps7
      go_wp2_with (go_at_call 25; refine (H25 _).mono ?_; rintro e w' ⟨rfl, rfl⟩)
      go_ret
      exact ⟨rfl, Below.refl _ _⟩
    obtain ⟨bom, rfl⟩ := Int.eq_ofNat_of_zero_le (show 0 ≤ bomI by omega)
    have hbb : bom ≤ 3 := by omega
    clear hb0 hb3
    go_enter Try.func7, Try.ntmps7
    go_wp2_with (go_at_call 25; refine (H25 _).mono ?_; rintro e w' ⟨rfl, rfl⟩)
    refine (H16a.out _).mono ?_
    rintro e w' ⟨va, rfl, hw', hva⟩
    cases hw'.symm
    clear hw'
    cases va
    · clear hva
      go_wp2_with fail
      go_ret
      exact ⟨rfl, Below.refl _ _⟩
    obtain ⟨ra, hra, hsa⟩ := hva rfl
    have HWA : Hid ((∀ r ∈ ra, scalar r) ∧ a.data.toList = ra.flatMap encL) := ⟨hra, by rw [← hsa, List.take_of_length_le (by rw [size_toList]; exact Nat.le_refl _)]⟩
    clear hra hsa hva
    go_wp2_with fail
    refine (H16b.out _).mono ?_
    rintro e w' ⟨vb, rfl, hw', hvb⟩
    cases hw'.symm
    clear hw'
    cases vb
    · clear hvb
      go_wp2_with fail
      go_ret
      exact ⟨rfl, Below.refl _ _⟩
    obtain ⟨rb, hrb, hsb⟩ := hvb rfl
    have HWB : Hid ((∀ r ∈ rb, scalar r) ∧ b.data.toList = rb.flatMap encL) := ⟨hrb, by rw [← hsb, List.take_of_length_le (by rw [size_toList]; exact Nat.le_refl _)]⟩
    clear hrb hsb hvb
    obtain ⟨L1, L2, L3, H1, H2, H3, H22, hl1, hl2, hl3⟩ := pack7 true big (bom : Int) a b ra rb hA hB hsum (fun _ => HWA.out) (fun _ => HWB.out)
    have P1 := hidj H1
    have P2 := hidj H2
    have P3 := hidj H3
    have P4 := hidj H22
    clear H1 H2 H3 H22
    obtain ⟨n1, HN1⟩ : ∃ n, Hid (L1.length = n) := ⟨_, rfl⟩
    obtain ⟨n2, HN2⟩ : ∃ n, Hid (L2.length = n) := ⟨_, rfl⟩
    obtain ⟨n3, HN3⟩ : ∃ n, Hid (L3.length = n) := ⟨_, rfl⟩
    rw [HN1.out] at hl1
    rw [HN2.out] at hl2
    rw [HN3.out] at hl3
    have hmk := fun w => make43 (bom + n1 + n2 + n3) (by omega) w
    obtain ⟨N, HNN⟩ : ∃ N, Hid (bom + n1 + n2 + n3 = N) := ⟨_, rfl⟩
    rw [HNN.out] at hmk
    rw [show ((N : Nat) : Int) = (bom : Int) + (n1 : Int) + (n2 : Int) + (n3 : Int) by have := HNN.out; omega] at hmk
    go_wp2_with fail
    refine (P1.out _).mono ?_
    rintro e w1 ⟨g1, c1, rfl, r1, l1, s1, b1⟩
    rw [HN1.out]
    go_wp2_with fail
    refine (P2.out _).mono ?_
    rintro e w2 ⟨g2, c2, rfl, o2, r2, l2, b2⟩
    rw [HN2.out]
    have s2 := o2.lt
    have r1a := r1.below b2 s1
    have s1a : g1 < w2.heap.size := Nat.lt_of_lt_of_le s1 b2.size
    go_wp2_with fail
    refine (P3.out _).mono ?_
    rintro e w3 ⟨g3, c3, rfl, r3, l3, s3, b3⟩
    rw [HN3.out]
    have R1 := hidj (r1a.below b3 s1a)
    have R2 := hidj (r2.below b3 s2)
    have R3 := hidj r3
    have s1b : g1 < w3.heap.size := Nat.lt_of_lt_of_le s1a b3.size
    have s2b : g2 < w3.heap.size := Nat.lt_of_lt_of_le s2 b3.size
    have B3 : Hid (Below w.heap.size w w3) := (b1.trans (b2.mono b1.size)).trans (b3.mono (Nat.le_trans b1.size b2.size))
    clear r1 r2 r3 r1a o2 b1 b2 b3 l1 l2 l3
    go_wp2_with fail
    go_loopw [15] (fun i wr => ∃ k : Nat, k ≤ bom ∧ i = .int .i64 k ∧ Own wr w3.heap.size 5 N ∧ Hid (Row .u8 wr w3.heap.size 0 (List.replicate k 255)) ∧ Hid (Below w3.heap.size w3 wr)) (fun i _ => bom - (intOf i).toNat)
    case atStart => exact ⟨0, Nat.zero_le _, rfl, own_made w3 _ _ _, Row.nil _ _ _ _, (Below.refl _ _).alloc (Nat.le_refl _) _⟩
    case round =>
      obtain ⟨k, hk, rfl, hown, hrow, hbel⟩ := hrel
      by_cases hlt : k < bom
      · obtain ⟨v0, hv0⟩ := hown.cell k (by have := HNN.out; omega)
        have hf := hown.frozen k
        have hkN : k < N := by have := HNN.out; omega
        go_wp2_with fail
        go_roundw
        case rel =>
          refine ⟨k + 1, by omega, by go_num, hown.setCell _ _, ?_, hbel.out.setCell (Nat.le_refl _) _⟩
          have := hrow.out.snoc hown (by rw [List.length_replicate]; omega) 255
          rw [List.length_replicate, Nat.zero_add, ← List.replicate_succ'] at this
          exact this
        case measure => simp [intOf]; omega
      · obtain rfl : k = bom := by omega
        obtain ⟨ob1, w4, hsl1, hcp1, own4, rows4, kept4, bel4⟩ := put_at wr w3.heap.size k N g1 c1 L1 hown (by have := HNN.out; rw [HN1.out]; omega) (R1.out.below hbel.out s1b)
        have row4 := rows4 _ List.length_replicate hrow.out
        have rr2 := kept4 g2 L2 (by omega) (R2.out.below hbel.out s2b)
        have rr3 := kept4 g3 L3 (by omega) (R3.out.below hbel.out s3)
        obtain ⟨ob2, w5, hsl2, hcp2, own5, rows5, kept5, bel5⟩ := put_at w4 w3.heap.size (k + n1) N g2 c2 L2 own4 (by have := HNN.out; rw [HN2.out]; omega) rr2
        have row5 := rows5 _ (by rw [List.length_append, List.length_replicate, HN1.out]) row4
        have rr3b := kept5 g3 L3 (by omega) rr3
        obtain ⟨ob3, w6, hsl3, hcp3, own6, rows6, kept6, bel6⟩ := put_at w5 w3.heap.size (k + n1 + n2) N g3 c3 L3 own5 (by have := HNN.out; rw [HN3.out]; omega) rr3b
        have row6 := rows6 _ (by rw [List.length_append, List.length_append, List.length_replicate, HN1.out, HN2.out]) row5
        have b6 := bel6 _ _ (bel5 _ _ (bel4 _ _ hbel.out (Nat.le_refl _)) (Nat.le_refl _)) (Nat.le_refl _)
        have HC := P4.out k w3.heap.size N (List.replicate k 255) w6 (by omega) List.length_replicate (by have := HNN.out; rw [HN1.out, HN2.out, HN3.out]; omega) own6.lt (by rw [List.append_assoc, List.append_assoc] at row6; rw [List.append_assoc]; exact row6)
        have HB6 : Hid (Below w.heap.size w w6) := B3.out.trans (b6.mono B3.out.size)
        obtain ⟨M1, HM1⟩ : ∃ M, Hid (N - k = M) := ⟨_, rfl⟩
        obtain ⟨M2, HM2⟩ : ∃ M, Hid (N - (k + n1) = M) := ⟨_, rfl⟩
        obtain ⟨M3, HM3⟩ : ∃ M, Hid (N - (k + n1 + n2) = M) := ⟨_, rfl⟩
        rw [HM1.out] at hsl1 hcp1
        rw [HM2.out] at hsl2 hcp2
        rw [HM3.out] at hsl3 hcp3
        rw [HN1.out] at hcp1
        rw [HN2.out] at hcp2
        rw [HN3.out] at hcp3
        rw [show ((k + n1 : Nat) : Int) = (k : Int) + (n1 : Int) by omega] at hsl2
        rw [show ((k + n1 + n2 : Nat) : Int) = (k : Int) + (n1 : Int) + (n2 : Int) by omega] at hsl3
        clear own4 own5 own6 rows4 rows5 rows6 kept4 kept5 kept6 bel4 bel5 bel6 row4 row5 row6 rr2 rr3 rr3b b6 hrow hbel hown
        go_wp2_with fail
        refine HC.mono ?_
        rintro e w7 ⟨rfl, b7⟩
        have HB7 : Hid (Below w.heap.size w w7) := HB6.out.trans (b7.mono HB6.out.size)
        clear b7 HC
        go_wp2_with fail
        go_ret
        exact ⟨by simp, HB7.out⟩
  · have hd : decide (a.size + b.size ≤ 1048576) = false := by simpa using hsum
    rw [hd] at H25
    clear hd ha hb
    go_enter Try.func7, Try.ntmps7
    go_wp2_with (go_at_call 25; refine (H25 _).mono ?_; rintro e w' ⟨rfl, rfl⟩)
    go_ret
    exact ⟨rfl, Below.refl _ _⟩

end Go.Proofs.Qxb6614661aR
