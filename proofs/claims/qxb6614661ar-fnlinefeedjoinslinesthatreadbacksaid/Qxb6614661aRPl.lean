import GoSem.Core.Utf8
import GoSem.Conv.StringToRunes
namespace Go.Proofs.Qxb6614661aR

/-- a Unicode scalar value -/
def scalar (r : Nat) : Prop := r < 55296 ∨ (57344 ≤ r ∧ r ≤ 1114111)

/-- the UTF-8 bytes of one code point -/
def encL (r : Nat) : List UInt8 :=
  if r < 128 then [UInt8.ofNat r] else if r < 2048 then [UInt8.ofNat (192 + r / 64), UInt8.ofNat (128 + r % 64)]
  else if r < 65536 then [UInt8.ofNat (224 + r / 4096), UInt8.ofNat (128 + r / 64 % 64), UInt8.ofNat (128 + r % 64)]
  else [UInt8.ofNat (240 + r / 262144), UInt8.ofNat (128 + r / 4096 % 64), UInt8.ofNat (128 + r / 64 % 64), UInt8.ofNat (128 + r % 64)]

theorem valid_of {r : Nat} (h : scalar r) : Go.Utf8.valid (r : Int) = true := by
  unfold Go.Utf8.valid
  rcases h with h | ⟨h1, h2⟩
  · simp; omega
  · simp; omega

theorem encode_eq {r : Nat} (hs : scalar r) : Go.Utf8.encode (r : Int) =
    if r < 128 then ⟨#[UInt8.ofNat r]⟩ else if r < 2048 then ⟨#[UInt8.ofNat (192 + r / 64), UInt8.ofNat (128 + r % 64)]⟩
    else if r < 65536 then ⟨#[UInt8.ofNat (224 + r / 4096), UInt8.ofNat (128 + r / 64 % 64), UInt8.ofNat (128 + r % 64)]⟩
    else ⟨#[UInt8.ofNat (240 + r / 262144), UInt8.ofNat (128 + r / 4096 % 64), UInt8.ofNat (128 + r / 64 % 64), UInt8.ofNat (128 + r % 64)]⟩ := by
  unfold Go.Utf8.encode
  rw [if_pos (valid_of hs), Int.toNat_natCast]

theorem ite_bytes {p : Prop} [Decidable p] (x y : ByteArray) : (if p then x else y).data.toList = if p then x.data.toList else y.data.toList := by
  split <;> rfl

theorem encode_data {r : Nat} (hs : scalar r) : (Go.Utf8.encode (r : Int)).data.toList = encL r := by
  rw [encode_eq hs, ite_bytes, ite_bytes, ite_bytes]
  rfl

theorem encL1 {r : Nat} (h : r < 128) : encL r = [UInt8.ofNat r] := by
  unfold encL
  rw [if_pos h]

theorem encL2 {r : Nat} (h1 : 128 ≤ r) (h : r < 2048) : encL r = [UInt8.ofNat (192 + r / 64), UInt8.ofNat (128 + r % 64)] := by
  unfold encL
  rw [if_neg (by omega), if_pos h]

theorem encL3 {r : Nat} (h1 : 2048 ≤ r) (h : r < 65536) : encL r = [UInt8.ofNat (224 + r / 4096), UInt8.ofNat (128 + r / 64 % 64), UInt8.ofNat (128 + r % 64)] := by
  unfold encL
  rw [if_neg (by omega), if_neg (by omega), if_pos h]

theorem encL4 {r : Nat} (h1 : 65536 ≤ r) : encL r = [UInt8.ofNat (240 + r / 262144), UInt8.ofNat (128 + r / 4096 % 64), UInt8.ofNat (128 + r / 64 % 64), UInt8.ofNat (128 + r % 64)] := by
  unfold encL
  rw [if_neg (by omega), if_neg (by omega), if_neg (by omega)]

theorem ofNat_eq {c : UInt8} {n : Nat} (h : n = c.toNat) : UInt8.ofNat n = c := by
  subst h
  exact UInt8.ofNat_toNat

theorem dec1 (c : UInt8) (h : c.toNat < 128) : ∃ r, scalar r ∧ encL r = [c] :=
  ⟨c.toNat, Or.inl (by omega), by rw [encL1 h, ofNat_eq rfl]⟩

theorem dec2 (c d : UInt8) (h1 : 194 ≤ c.toNat) (h2 : c.toNat ≤ 223) (h3 : 128 ≤ d.toNat) (h4 : d.toNat ≤ 191) : ∃ r, scalar r ∧ encL r = [c, d] :=
  ⟨(c.toNat - 192) * 64 + (d.toNat - 128), Or.inl (by omega), by rw [encL2 (by omega) (by omega), ofNat_eq (c := c) (by omega), ofNat_eq (c := d) (by omega)]⟩

theorem dec3 (c d e : UInt8) (h1 : 224 ≤ c.toNat) (h2 : c.toNat ≤ 239) (h3 : 128 ≤ d.toNat) (h4 : d.toNat ≤ 191) (h5 : c.toNat = 224 → 160 ≤ d.toNat) (h6 : c.toNat = 237 → d.toNat ≤ 159)
    (h7 : 128 ≤ e.toNat) (h8 : e.toNat ≤ 191) : ∃ r, scalar r ∧ encL r = [c, d, e] := by
  have hs : scalar ((c.toNat - 224) * 4096 + (d.toNat - 128) * 64 + (e.toNat - 128)) := by
    by_cases hc : c.toNat ≤ 237
    · left
      by_cases hc2 : c.toNat = 237
      · have := h6 hc2; omega
      · omega
    · right; omega
  refine ⟨_, hs, ?_⟩
  have : 2048 ≤ (c.toNat - 224) * 4096 + (d.toNat - 128) * 64 + (e.toNat - 128) := by
    by_cases hc : c.toNat = 224
    · have := h5 hc; omega
    · omega
  rw [encL3 this (by omega), ofNat_eq (c := c) (by omega), ofNat_eq (c := d) (by omega), ofNat_eq (c := e) (by omega)]

theorem dec4 (c d e f : UInt8) (h1 : 240 ≤ c.toNat) (h2 : c.toNat ≤ 244) (h3 : 128 ≤ d.toNat) (h4 : d.toNat ≤ 191) (h5 : c.toNat = 240 → 144 ≤ d.toNat) (h6 : c.toNat = 244 → d.toNat ≤ 143)
    (h7 : 128 ≤ e.toNat) (h8 : e.toNat ≤ 191) (h9 : 128 ≤ f.toNat) (h10 : f.toNat ≤ 191) : ∃ r, scalar r ∧ encL r = [c, d, e, f] := by
  have hs : scalar ((c.toNat - 240) * 262144 + (d.toNat - 128) * 4096 + (e.toNat - 128) * 64 + (f.toNat - 128)) := by
    right
    by_cases hc : c.toNat = 240
    · have := h5 hc; omega
    · by_cases hc2 : c.toNat = 244
      · have := h6 hc2; omega
      · omega
  refine ⟨_, hs, ?_⟩
  have : 65536 ≤ (c.toNat - 240) * 262144 + (d.toNat - 128) * 4096 + (e.toNat - 128) * 64 + (f.toNat - 128) := by
    by_cases hc : c.toNat = 240
    · have := h5 hc; omega
    · omega
  rw [encL4 this, ofNat_eq (c := c) (by omega), ofNat_eq (c := d) (by omega), ofNat_eq (c := e) (by omega), ofNat_eq (c := f) (by omega)]

/-- the first k bytes of s are well-formed UTF-8. -/
def Wf (s : ByteArray) (k : Nat) : Prop := ∃ rs : List Nat, (∀ r ∈ rs, scalar r) ∧ s.data.toList.take k = rs.flatMap encL

theorem wf_zero (s : ByteArray) : Wf s 0 := ⟨[], by simp, by simp⟩

theorem take_snoc (s : ByteArray) (k : Nat) (h : k < s.size) : s.data.toList.take (k + 1) = s.data.toList.take k ++ [s[k]] := by
  rw [List.take_succ_eq_append_getElem (by simpa using h)]; rfl

theorem wf_more {s : ByteArray} {k n : Nat} (hw : Wf s k) (t : List UInt8) (ht : s.data.toList.take n = s.data.toList.take k ++ t) (h : ∃ r, scalar r ∧ encL r = t) : Wf s n := by
  obtain ⟨rs, h1, h2⟩ := hw
  obtain ⟨r, h3, h4⟩ := h
  refine ⟨rs ++ [r], ?_, ?_⟩
  · intro x hx
    rcases List.mem_append.1 hx with hx | hx
    · exact h1 x hx
    · simp at hx; subst hx; exact h3
  · rw [ht, h2, List.flatMap_append]; simp [h4]

theorem wf1 {s : ByteArray} {k : Nat} (hw : Wf s k) (h : k < s.size) (h1 : (s[k].toNat : Int) < 128) : Wf s (k + 1) :=
  wf_more hw [s[k]] (take_snoc s k h) (dec1 _ (by omega))

theorem wf2 {s : ByteArray} {k : Nat} (hw : Wf s k) (h : k + 1 < s.size) (h1 : 194 ≤ (s[k].toNat : Int)) (h2 : (s[k].toNat : Int) ≤ 223)
    (h3 : 128 ≤ (s[k + 1].toNat : Int)) (h4 : (s[k + 1].toNat : Int) ≤ 191) : Wf s (k + 2) :=
  wf_more hw [s[k], s[k + 1]] (by rw [take_snoc s (k + 1) h, take_snoc s k (by omega)]; simp) (dec2 _ _ (by omega) (by omega) (by omega) (by omega))

theorem wf3 {s : ByteArray} {k : Nat} (hw : Wf s k) (h : k + 2 < s.size) (h1 : 224 ≤ (s[k].toNat : Int)) (h2 : (s[k].toNat : Int) ≤ 239)
    (h3 : 128 ≤ (s[k + 1].toNat : Int)) (h4 : (s[k + 1].toNat : Int) ≤ 191) (h5 : (s[k].toNat : Int) = 224 → 160 ≤ (s[k + 1].toNat : Int)) (h6 : (s[k].toNat : Int) = 237 → (s[k + 1].toNat : Int) ≤ 159)
    (h7 : 128 ≤ (s[k + 2].toNat : Int)) (h8 : (s[k + 2].toNat : Int) ≤ 191) : Wf s (k + 3) :=
  wf_more hw [s[k], s[k + 1], s[k + 2]] (by rw [take_snoc s (k + 2) h, take_snoc s (k + 1) (by omega), take_snoc s k (by omega)]; simp)
    (dec3 _ _ _ (by omega) (by omega) (by omega) (by omega) (by omega) (by omega) (by omega) (by omega))

theorem wf4 {s : ByteArray} {k : Nat} (hw : Wf s k) (h : k + 3 < s.size) (h1 : 240 ≤ (s[k].toNat : Int)) (h2 : (s[k].toNat : Int) ≤ 244)
    (h3 : 128 ≤ (s[k + 1].toNat : Int)) (h4 : (s[k + 1].toNat : Int) ≤ 191) (h5 : (s[k].toNat : Int) = 240 → 144 ≤ (s[k + 1].toNat : Int)) (h6 : (s[k].toNat : Int) = 244 → (s[k + 1].toNat : Int) ≤ 143)
    (h7 : 128 ≤ (s[k + 2].toNat : Int)) (h8 : (s[k + 2].toNat : Int) ≤ 191) (h9 : 128 ≤ (s[k + 3].toNat : Int)) (h10 : (s[k + 3].toNat : Int) ≤ 191) : Wf s (k + 4) :=
  wf_more hw [s[k], s[k + 1], s[k + 2], s[k + 3]] (by rw [take_snoc s (k + 3) h, take_snoc s (k + 2) (by omega), take_snoc s (k + 1) (by omega), take_snoc s k (by omega)]; simp)
    (dec4 _ _ _ _ (by omega) (by omega) (by omega) (by omega) (by omega) (by omega) (by omega) (by omega) (by omega) (by omega))

end Go.Proofs.Qxb6614661aR
