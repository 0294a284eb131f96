import Derived.Test.Qxb6614661aRWf
import Derived.Test.Qxb6614661aRWb
namespace Go.Proofs.Qxb6614661aR
open Go.RowKit

theorem data_app (a b : ByteArray) : (a ++ b).data.toList = a.data.toList ++ b.data.toList := by
  simp [ByteArray.data_append]

theorem size_app (a b : ByteArray) : (a ++ b).size = a.size + b.size := by
  rw [size_toList, data_app, List.length_append, ← size_toList, ← size_toList]

theorem byteInts_app (a b : ByteArray) : byteInts (a ++ b) = byteInts a ++ byteInts b := by
  unfold byteInts
  rw [data_app, List.map_append]

theorem encB_app (wide big : Bool) (a b : ByteArray) (ra rb : List Nat) : encB wide big (a ++ b) (ra ++ rb) = encB wide big a ra ++ encB wide big b rb := by
  cases wide
  · exact byteInts_app a b
  · show wideBytes big (unitsL (ra ++ rb)) = wideBytes big (unitsL ra) ++ wideBytes big (unitsL rb)
    rw [unitsL_app, wideBytes_app]

theorem encB_len (wide big : Bool) (a : ByteArray) (ra : List Nat) (ha : a.size ≤ 1048576) (h : wide = true → a.data.toList = ra.flatMap encL) : (encB wide big a ra).length ≤ 4194304 := by
  cases wide
  · show (byteInts a).length ≤ _
    rw [byteInts_length]; omega
  · have h1 := flat_len ra
    rw [← h rfl, ← size_toList] at h1
    have h2 := unitsL_len ra
    show (wideBytes big (unitsL ra)).length ≤ _
    rw [wideBytes_length]
    omega

/-- what the law's walk wants of the callees, the encodings under names. -/
theorem pack4 (wide big : Bool) (bom : Int) (a b : ByteArray) (ra rb : List Nat) (hA : a.size ≤ 1048576) (hB : b.size ≤ 1048576) (hAB : (a ++ b).size ≤ 1048576)
    (hwa : wide = true → (∀ r ∈ ra, scalar r) ∧ a.data.toList = ra.flatMap encL) (hwb : wide = true → (∀ r ∈ rb, scalar r) ∧ b.data.toList = rb.flatMap encL) :
    ∃ L1 L2 : List Int, (∀ w, Calls Try.prog 17 #[.bool wide, .bool big, .int .i64 bom, .string a] w (Gives L1 w)) ∧ (∀ w, Calls Try.prog 17 #[.bool wide, .bool big, .int .i64 bom, .string b] w (Gives L2 w)) ∧
      (∀ w, Calls Try.prog 17 #[.bool wide, .bool big, .int .i64 bom, .string (a ++ b)] w (Gives (L1 ++ L2) w)) ∧
      (∀ w g c, Row .u8 w g 0 L1 → Calls Try.prog 20 #[.bool wide, .bool big, .string a, .slice (some ⟨g, 0, none⟩) L1.length c] w fun e w' => e = .returned (.bool true) ∧ ∃ q, w' = w.drewN q) ∧
      (∀ w g c, Row .u8 w g 0 L2 → Calls Try.prog 20 #[.bool wide, .bool big, .string b, .slice (some ⟨g, 0, none⟩) L2.length c] w fun e w' => e = .returned (.bool true) ∧ ∃ q, w' = w.drewN q) ∧
      L1.length + L2.length ≤ 16777216 := by
  have h20 : ∀ (s : ByteArray) (rs : List Nat), s.size ≤ 1048576 → (wide = true → (∀ r ∈ rs, scalar r) ∧ s.data.toList = rs.flatMap encL) →
      ∀ w g c, Row .u8 w g 0 (encB wide big s rs) → Calls Try.prog 20 #[.bool wide, .bool big, .string s, .slice (some ⟨g, 0, none⟩) (encB wide big s rs).length c] w fun e w' => e = .returned (.bool true) ∧ ∃ q, w' = w.drewN q := by
    intro s rs hs hw w g c hrow
    cases wide
    · have e : (encB false big s rs).length = s.size := byteInts_length s
      rw [e]
      exact w20n big g c s w hs hrow
    · have e : (encB true big s rs).length = 2 * (unitsL rs).length := wideBytes_length _ _
      exact (w20w big g c _ s rs w hs (hw rfl).1 (hw rfl).2 e hrow).mono fun e w' h => ⟨h.1, 0, h.2⟩
  refine ⟨encB wide big a ra, encB wide big b rb, fun w => w17 wide big bom a ra w hwa hA, fun w => w17 wide big bom b rb w hwb hB, fun w => ?_, h20 a ra hA hwa, h20 b rb hB hwb, ?_⟩
  · rw [← encB_app]
    refine w17 wide big bom (a ++ b) (ra ++ rb) w (fun h => ⟨?_, ?_⟩) hAB
    · intro r hr
      rcases List.mem_append.1 hr with hr | hr
      · exact (hwa h).1 r hr
      · exact (hwb h).1 r hr
    · rw [data_app, (hwa h).2, (hwb h).2, List.flatMap_append]
  · have := encB_len wide big a ra hA (fun h => (hwa h).2)
    have := encB_len wide big b rb hB (fun h => (hwb h).2)
    omega

set_option maxRecDepth 100000 in
set_option maxHeartbeats 400000 in
theorem walk4n (big : Bool) (bom : Int) (a b : ByteArray) (ha : a.size ≤ maxLen) (hb : b.size ≤ maxLen) (w : World) :
    Calls Try.prog 4 #[.bool false, .bool big, .int .i64 bom, .string a, .string b] w fun e w' => e = .returned (.bool true) ∧ Below w.heap.size w w' := by
  have H15 := fun w => (w15 false big bom a b w ha hb).mono (fun e w' h => (⟨h.1, h.2.symm⟩ : e = _ ∧ w = w'))
  by_cases hsum : a.size + b.size ≤ 1048576
  · have hd : decide (a.size + b.size ≤ 1048576) = true := by simpa using hsum
    rw [hd] at H15
    have hA : a.size ≤ 1048576 := by omega
    have hB : b.size ≤ 1048576 := by omega
    have HAB : Hid ((a ++ b).size ≤ 1048576) := by rw [size_app]; exact hsum
    clear hd ha hb
    go_enter Try.func4, Try.ntmps4
    go_wp2_with (go_at_call 15; refine (H15 _).mono ?_; rintro e w' ⟨rfl, rfl⟩)
    obtain ⟨L1, L2, H1, H2, H3, H20a, H20b, hlen⟩ := pack4 false big bom a b [] [] hA hB HAB.out (by simp) (by simp)
    have P1 : Hid _ := H1
    have P2 : Hid _ := H2
    have P3 : Hid _ := H3
    have P4 : Hid _ := H20a
    have P5 : Hid _ := H20b
    clear H1 H2 H3 H20a H20b
    go_wp2_with fail
    refine (P1.out _).mono ?_
    rintro e w1 ⟨g1, c1, rfl, r1, l1, s1, b1⟩
    go_wp2_with fail
    refine (P2.out _).mono ?_
    rintro e w2 ⟨g2, c2, rfl, r2, l2, s2, b2⟩
    have r1' := r1.below b2 s1
    have s1' : g1 < w2.heap.size := Nat.lt_of_lt_of_le s1 b2.size
    go_wp2_with fail
    refine (P3.out _).mono ?_
    rintro e w3 ⟨g3, c3, rfl, r3, l3, s3, b3⟩
    have r1'' := r1'.below b3 s1'
    have r2'' := r2.below b3 s2
    have s1'' : g1 < w3.heap.size := Nat.lt_of_lt_of_le s1' b3.size
    have s2'' : g2 < w3.heap.size := Nat.lt_of_lt_of_le s2 b3.size
    have t3 : Below w.heap.size w w3 := (b1.trans (b2.mono b1.size)).trans (b3.mono (Nat.le_trans b1.size b2.size))
    clear b1 b2 b3 r1 r2 r1' l1 l2 l3
    go_wp2_with fail
    refine (w19 g1 g2 c1 c2 _ _ _ s1'' s2'' r1'' r2'' hlen).mono ?_
    rintro e w4 ⟨g4, c4, rfl, r4, l4, s4, b4⟩
    have r3' := r3.below b4 s3
    have t4 : Below w.heap.size w w4 := t3.trans (b4.mono t3.size)
    go_wp2_with fail
    refine (w18 g3 g4 c3 c4 _ _ _ (by rw [List.length_append]) (by unfold maxLen; omega) r3' r4).mono ?_
    rintro e w5 ⟨rfl, q5, rfl⟩
    have r1f := (r1''.below b4 s1'').drewN q5
    have r2f := (r2''.below b4 s2'').drewN q5
    go_wp2_with fail
    refine (P4.out _ g1 c1 r1f).mono ?_
    rintro e w6 ⟨rfl, q6, rfl⟩
    go_wp2_with fail
    refine (P5.out (w4.drewN (q5 + q6)) g2 c2 ((r2''.below b4 s2'').drewN (q5 + q6))).mono ?_
    rintro e w7 ⟨rfl, q7, rfl⟩
    go_wp2_with fail
    go_ret
    exact ⟨rfl, ⟨t4.os, t4.tape, t4.output, t4.size, t4.block⟩⟩
  · have hd : decide (a.size + b.size ≤ 1048576) = false := by simpa using hsum
    rw [hd] at H15
    clear hd ha hb
    go_enter Try.func4, Try.ntmps4
    go_wp2_with (go_at_call 15; refine (H15 _).mono ?_; rintro e w' ⟨rfl, rfl⟩)
    go_ret
    exact ⟨rfl, Below.refl _ _⟩

set_option maxRecDepth 100000 in
set_option maxHeartbeats 400000 in
theorem walk4w (big : Bool) (bom : Int) (a b : ByteArray) (ha : a.size ≤ maxLen) (hb : b.size ≤ maxLen) (w : World) :
    Calls Try.prog 4 #[.bool true, .bool big, .int .i64 bom, .string a, .string b] w fun e w' => e = .returned (.bool true) ∧ Below w.heap.size w w' := by
  have H15 := fun w => (w15 true big bom a b w ha hb).mono (fun e w' h => (⟨h.1, h.2.symm⟩ : e = _ ∧ w = w'))
  by_cases hsum : a.size + b.size ≤ 1048576
  · have hd : decide (a.size + b.size ≤ 1048576) = true := by simpa using hsum
    rw [hd] at H15
    have hA : a.size ≤ 1048576 := by omega
    have hB : b.size ≤ 1048576 := by omega
    have HAB : Hid ((a ++ b).size ≤ 1048576) := by rw [size_app]; exact hsum
    have H16a : Hid (∀ w, Calls Try.prog 16 #[.string a] w (Post16 a w)) := fun w => w16 a w ha
    have H16b : Hid (∀ w, Calls Try.prog 16 #[.string b] w (Post16 b w)) := fun w => w16 b w hb
    clear hd ha hb
    go_enter Try.func4, Try.ntmps4
    go_wp2_with (go_at_call 15; refine (H15 _).mono ?_; rintro e w' ⟨rfl, rfl⟩)
    refine (H16a.out _).mono ?_
    rintro e w' ⟨va, rfl, hw', hva⟩
    cases hw'.symm
    clear hw'
    cases va
    · clear hva
      go_wp2_with fail
      go_ret
      exact ⟨rfl, Below.refl _ _⟩
    obtain ⟨ra, hra, hsa⟩ := hva rfl
    have HWA : Hid ((∀ r ∈ ra, scalar r) ∧ a.data.toList = ra.flatMap encL) := ⟨hra, by rw [← hsa, List.take_of_length_le (by rw [size_toList]; exact Nat.le_refl _)]⟩
    clear hra hsa hva
    go_wp2_with fail
    refine (H16b.out _).mono ?_
    rintro e w' ⟨vb, rfl, hw', hvb⟩
    cases hw'.symm
    clear hw'
    cases vb
    · clear hvb
      go_wp2_with fail
      go_ret
      exact ⟨rfl, Below.refl _ _⟩
    obtain ⟨rb, hrb, hsb⟩ := hvb rfl
    have HWB : Hid ((∀ r ∈ rb, scalar r) ∧ b.data.toList = rb.flatMap encL) := ⟨hrb, by rw [← hsb, List.take_of_length_le (by rw [size_toList]; exact Nat.le_refl _)]⟩
    clear hrb hsb hvb
    obtain ⟨L1, L2, H1, H2, H3, H20a, H20b, hlen⟩ := pack4 true big bom a b ra rb hA hB HAB.out (fun _ => HWA.out) (fun _ => HWB.out)
    have P1 : Hid _ := H1
    have P2 : Hid _ := H2
    have P3 : Hid _ := H3
    have P4 : Hid _ := H20a
    have P5 : Hid _ := H20b
    clear H1 H2 H3 H20a H20b
    go_wp2_with fail
    refine (P1.out _).mono ?_
    rintro e w1 ⟨g1, c1, rfl, r1, l1, s1, b1⟩
    go_wp2_with fail
    refine (P2.out _).mono ?_
    rintro e w2 ⟨g2, c2, rfl, r2, l2, s2, b2⟩
    have r1' := r1.below b2 s1
    have s1' : g1 < w2.heap.size := Nat.lt_of_lt_of_le s1 b2.size
    go_wp2_with fail
    refine (P3.out _).mono ?_
    rintro e w3 ⟨g3, c3, rfl, r3, l3, s3, b3⟩
    have r1'' := r1'.below b3 s1'
    have r2'' := r2.below b3 s2
    have s1'' : g1 < w3.heap.size := Nat.lt_of_lt_of_le s1' b3.size
    have s2'' : g2 < w3.heap.size := Nat.lt_of_lt_of_le s2 b3.size
    have t3 : Below w.heap.size w w3 := (b1.trans (b2.mono b1.size)).trans (b3.mono (Nat.le_trans b1.size b2.size))
    clear b1 b2 b3 r1 r2 r1' l1 l2 l3
    go_wp2_with fail
    refine (w19 g1 g2 c1 c2 _ _ _ s1'' s2'' r1'' r2'' hlen).mono ?_
    rintro e w4 ⟨g4, c4, rfl, r4, l4, s4, b4⟩
    have r3' := r3.below b4 s3
    have t4 : Below w.heap.size w w4 := t3.trans (b4.mono t3.size)
    go_wp2_with fail
    refine (w18 g3 g4 c3 c4 _ _ _ (by rw [List.length_append]) (by unfold maxLen; omega) r3' r4).mono ?_
    rintro e w5 ⟨rfl, q5, rfl⟩
    have r1f := (r1''.below b4 s1'').drewN q5
    have r2f := (r2''.below b4 s2'').drewN q5
    go_wp2_with fail
    refine (P4.out _ g1 c1 r1f).mono ?_
    rintro e w6 ⟨rfl, q6, rfl⟩
    go_wp2_with fail
    refine (P5.out (w4.drewN (q5 + q6)) g2 c2 ((r2''.below b4 s2'').drewN (q5 + q6))).mono ?_
    rintro e w7 ⟨rfl, q7, rfl⟩
    go_wp2_with fail
    go_ret
    exact ⟨rfl, ⟨t4.os, t4.tape, t4.output, t4.size, t4.block⟩⟩
  · have hd : decide (a.size + b.size ≤ 1048576) = false := by simpa using hsum
    rw [hd] at H15
    clear hd ha hb
    go_enter Try.func4, Try.ntmps4
    go_wp2_with (go_at_call 15; refine (H15 _).mono ?_; rintro e w' ⟨rfl, rfl⟩)
    go_ret
    exact ⟨rfl, Below.refl _ _⟩

end Go.Proofs.Qxb6614661aR
