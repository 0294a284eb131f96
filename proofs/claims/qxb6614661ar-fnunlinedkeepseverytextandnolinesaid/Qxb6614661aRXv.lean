import Derived.Test.Qxb6614661aRXa
import Derived.ProofKit
import Derived.OpenShut
import Derived.Deep.Slices
namespace Go.Proofs.Qxb6614661aR
open Go.ChangeShapes Go.WideShapes Go.ChangeAt Go.RowKit

theorem c3 : Try.prog.cellsOf 3 = 1 := by kernel_rfl
theorem c9 : Try.prog.cellsOf 9 = 1 := by kernel_rfl
theorem c22 : Try.prog.cellsOf 22 = 1 := by kernel_rfl
theorem c23 : Try.prog.cellsOf 23 = 1 := by kernel_rfl
theorem c24 : Try.prog.cellsOf 24 = 1 := by kernel_rfl
theorem c25 : Try.prog.cellsOf 25 = 1 := by kernel_rfl
theorem c26 : Try.prog.cellsOf 26 = 1 := by kernel_rfl
theorem c28 : Try.prog.cellsOf 28 = 6 := by kernel_rfl
theorem c66 : Try.prog.cellsOf 66 = 2 := by kernel_rfl
theorem c68 : Try.prog.cellsOf 68 = 3 := by kernel_rfl
theorem c70 : Try.prog.cellsOf 70 = 3 := by kernel_rfl
theorem c72 : Try.prog.cellsOf 72 = 6 := by kernel_rfl
theorem c74 : Try.prog.cellsOf 74 = 6 := by kernel_rfl

instance : Inhabited Sl := ⟨⟨none, 0, 0⟩⟩
instance : Inhabited WC := ⟨⟨fun _ => ByteArray.empty, fun _ => 0⟩⟩

theorem add_none (b o k : Nat) : (⟨b, o, none⟩ : Addr).add k = ⟨b, o + k, none⟩ := by
  unfold Addr.add
  split <;> simp_all

theorem list2 {α : Type} {l : List α} (h : l.length = 2) : ∃ a b, l = [a, b] := by
  match l, h with
  | [a, b], _ => exact ⟨a, b, rfl⟩
theorem list3 {α : Type} {l : List α} (h : l.length = 3) : ∃ a b c, l = [a, b, c] := by
  match l, h with
  | [a, b, c], _ => exact ⟨a, b, c, rfl⟩
theorem list4 {α : Type} {l : List α} (h : l.length = 4) : ∃ a b c d, l = [a, b, c, d] := by
  match l, h with
  | [a, b, c, d], _ => exact ⟨a, b, c, d, rfl⟩
theorem list6 {α : Type} {l : List α} (h : l.length = 6) : ∃ a b c d e f, l = [a, b, c, d, e, f] := by
  match l, h with
  | [a, b, c, d, e, f], _ => exact ⟨a, b, c, d, e, f, rfl⟩

section
variable {H : Type} {enc : TypeId × Value → H} {W : World}

/-- a word's two cells. -/
theorem oWord {n : Nat} {a b : Value} {x : DataW H × List MemPlace} (h : DataW.trod enc Try.prog W 0 (fun _ => true) true n 66 [a, b] = some x) : ∃ t l, a = .string t ∧ b = .int .i64 l := by
  obtain ⟨xs, m, _, _, _, hl, hf⟩ := DataW.trod_struct Try.underlying66 h
  have g0 := hf 0 _ rfl
  have g1 := hf 1 _ rfl
  obtain ⟨y0, y1, rfl⟩ := list2 hl
  simp [c9, c3] at g0 g1
  obtain ⟨s, hs, _⟩ := DataW.trod_string Try.underlying9 g0
  obtain ⟨l, hl, _⟩ := DataW.trod_int Try.underlying3 g1
  simp at hs hl
  exact ⟨s, l, hs, hl⟩

/-- a slice's cell is a slice. -/
theorem oSl {n : Nat} {t e : TypeId} {v : Value} {x : DataW H × List MemPlace} (ht : Try.prog.underlying t = some (.slice e)) (h : DataW.trod enc Try.prog W 0 (fun _ => true) true n t [v] = some x) : ∃ s : Sl, v = .slice s.a s.n s.c := by
  rcases Deep.open_slice ht h with ⟨hcs, _⟩ | ⟨ad, len, cap, m, k, D, Pl, hcs, _⟩
  · simp at hcs; exact ⟨⟨none, 0, 0⟩, hcs⟩
  · simp at hcs; exact ⟨⟨some ad, len, cap⟩, hcs⟩

/-- the cells of a row. -/
theorem oRow {n : Nat} {t e : TypeId} {sz : Nat} {s : Sl} {x : DataW H × List MemPlace} (ht : Try.prog.underlying t = some (.slice e)) (hc : Try.prog.cellsOf e = sz) (h0 : 0 < sz)
    (h : DataW.trod enc Try.prog W 0 (fun _ => true) true n t [.slice s.a s.n s.c] = some x) :
    s.n = 0 ∨ ∃ b o, s.a = some ⟨b, o, none⟩ ∧ ∀ i, i < s.n → ∃ k cs y, DataW.trod enc Try.prog W 0 (fun _ => true) true k e cs = some y ∧ cs.length = sz ∧ ∀ j, j < sz → W.cell? ⟨b, o + i * sz + j, none⟩ = cs[j]? := by
  rcases Deep.open_slice ht h with ⟨hcs, _⟩ | ⟨⟨b, o, spot⟩, len, cap, m, k, D, Pl, hcs, _, hl, _, hm, _, hx⟩
  · simp at hcs; exact Or.inl hcs.2.1
  · simp at hcs hm
    obtain ⟨ha, hn, _⟩ := hcs
    by_cases hz : s.n = 0
    · exact Or.inl hz
    right
    have hspot : spot = none := by
      obtain ⟨cs, h1, _⟩ := hx 0 (by omega)
      obtain ⟨_, hlen, hcell⟩ := World.cells?_some h1
      have := hcell 0 (by omega)
      rw [List.getElem?_eq_getElem (by omega)] at this
      simpa [Addr.add] using World.cell?_spot this
    subst hspot
    refine ⟨b, o, ha, fun i hi => ?_⟩
    obtain ⟨cs, h1, h2⟩ := hx i (by omega)
    obtain ⟨_, hlen, hcell⟩ := World.cells?_some h1
    refine ⟨k, cs, _, h2, by omega, fun j hj => ?_⟩
    have := hcell j (by omega)
    rw [hc, add_none, add_none] at this
    exact this

theorem oWords {n : Nat} {s : Sl} {x : DataW H × List MemPlace} (h : DataW.trod enc Try.prog W 0 (fun _ => true) true n 22 [.slice s.a s.n s.c] = some x) : ∃ A : WC, Words W s A := by
  rcases oRow Try.underlying22 c66 (by omega) h with h0 | ⟨b, o, ha, hx⟩
  · exact ⟨default, Or.inl h0⟩
  · have each : ∀ i, i < s.n → ∃ q : ByteArray × Int, W.cell? ⟨b, o + i * 2, none⟩ = some (.string q.1) ∧ W.cell? ⟨b, o + i * 2 + 1, none⟩ = some (.int .i64 q.2) := fun i hi => by
      obtain ⟨k, cs, y, h1, hl, hc⟩ := hx i hi
      obtain ⟨v0, v1, rfl⟩ := list2 hl
      obtain ⟨t, l, rfl, rfl⟩ := oWord h1
      exact ⟨(t, l), hc 0 (by omega), hc 1 (by omega)⟩
    obtain ⟨q, hq⟩ := Deep.choose_lt each
    exact ⟨⟨fun i => (q i).1, fun i => (q i).2⟩, Or.inr ⟨b, o, ha, fun i hi => hq i hi⟩⟩

theorem oRoles {n : Nat} {t e : TypeId} {f0 f1 : Field} {s : Sl} {x : DataW H × List MemPlace} (ht : Try.prog.underlying t = some (.slice e)) (he : Try.prog.underlying e = some (.struct #[f0, f1])) (hc : Try.prog.cellsOf e = 3)
    (t0 : f0.type = 66) (o0 : f0.offset = 0) (t1 : f1.type = 22) (o1 : f1.offset = 2)
    (h : DataW.trod enc Try.prog W 0 (fun _ => true) true n t [.slice s.a s.n s.c] = some x) : ∃ vs A, Roles W s vs A := by
  rcases oRow ht hc (by omega) h with h0 | ⟨b, o, ha, hx⟩
  · exact ⟨fun _ => default, ⟨fun _ => ByteArray.empty, fun _ => 0, fun _ => default⟩, Or.inl h0⟩
  · have each : ∀ i, i < s.n → ∃ q : ByteArray × Int × Sl × WC, W.cell? ⟨b, o + i * 3, none⟩ = some (.string q.1) ∧ W.cell? ⟨b, o + i * 3 + 1, none⟩ = some (.int .i64 q.2.1) ∧
        W.cell? ⟨b, o + i * 3 + 2, none⟩ = some (.slice q.2.2.1.a q.2.2.1.n q.2.2.1.c) ∧ Words W q.2.2.1 q.2.2.2 := fun i hi => by
      obtain ⟨k, cs, y, h1, hl, hcell⟩ := hx i hi
      obtain ⟨xs, m, _, _, _, hxl, hf⟩ := DataW.trod_struct he h1
      have g0 := hf 0 f0 rfl
      have g1 := hf 1 f1 rfl
      obtain ⟨y0, y1, rfl⟩ := list2 hxl
      obtain ⟨v0, v1, v2, rfl⟩ := list3 hl
      simp [t0, o0, t1, o1, c66, c22] at g0 g1
      obtain ⟨t, l, rfl, rfl⟩ := oWord g0
      obtain ⟨s', rfl⟩ := oSl Try.underlying22 g1
      obtain ⟨A, hA⟩ := oWords g1
      exact ⟨(t, l, s', A), hcell 0 (by omega), hcell 1 (by omega), hcell 2 (by omega), hA⟩
    obtain ⟨q, hq⟩ := Deep.choose_lt each
    exact ⟨fun i => (q i).2.2.1, ⟨fun i => (q i).1, fun i => (q i).2.1, fun i => (q i).2.2.2⟩, Or.inr ⟨b, o, ha, fun i hi => hq i hi⟩⟩

theorem oGrants {n : Nat} {t e : TypeId} {f0 f1 f2 f3 : Field} {s : Sl} {x : DataW H × List MemPlace} (ht : Try.prog.underlying t = some (.slice e)) (he : Try.prog.underlying e = some (.struct #[f0, f1, f2, f3])) (hc : Try.prog.cellsOf e = 6)
    (t0 : f0.type = 3) (o0 : f0.offset = 0) (t1 : f1.type = 66) (o1 : f1.offset = 1) (t2 : f2.type = 22) (o2 : f2.offset = 3) (t3 : f3.type = 66) (o3 : f3.offset = 4)
    (h : DataW.trod enc Try.prog W 0 (fun _ => true) true n t [.slice s.a s.n s.c] = some x) : ∃ vs A, Grants W s vs A := by
  rcases oRow ht hc (by omega) h with h0 | ⟨b, o, ha, hx⟩
  · exact ⟨fun _ => default, ⟨fun _ => 0, fun _ => ByteArray.empty, fun _ => 0, fun _ => default, fun _ => ByteArray.empty, fun _ => 0⟩, Or.inl h0⟩
  · have each : ∀ i, i < s.n → ∃ q : Int × ByteArray × Int × Sl × WC × ByteArray × Int, W.cell? ⟨b, o + i * 6, none⟩ = some (.int .i64 q.1) ∧ W.cell? ⟨b, o + i * 6 + 1, none⟩ = some (.string q.2.1) ∧ W.cell? ⟨b, o + i * 6 + 2, none⟩ = some (.int .i64 q.2.2.1) ∧
        W.cell? ⟨b, o + i * 6 + 3, none⟩ = some (.slice q.2.2.2.1.a q.2.2.2.1.n q.2.2.2.1.c) ∧ W.cell? ⟨b, o + i * 6 + 4, none⟩ = some (.string q.2.2.2.2.2.1) ∧ W.cell? ⟨b, o + i * 6 + 5, none⟩ = some (.int .i64 q.2.2.2.2.2.2) ∧
        Words W q.2.2.2.1 q.2.2.2.2.1 := fun i hi => by
      obtain ⟨k, cs, y, h1, hl, hcell⟩ := hx i hi
      obtain ⟨xs, m, _, _, _, hxl, hf⟩ := DataW.trod_struct he h1
      have g0 := hf 0 f0 rfl
      have g1 := hf 1 f1 rfl
      have g2 := hf 2 f2 rfl
      have g3 := hf 3 f3 rfl
      obtain ⟨y0, y1, y2, y3, rfl⟩ := list4 hxl
      obtain ⟨v0, v1, v2, v3, v4, v5, rfl⟩ := list6 hl
      simp [t0, o0, t1, o1, t2, o2, t3, o3, c3, c66, c22] at g0 g1 g2 g3
      obtain ⟨l0, h0, _⟩ := DataW.trod_int Try.underlying3 g0
      simp at h0
      subst h0
      obtain ⟨t, l, rfl, rfl⟩ := oWord g1
      obtain ⟨s', rfl⟩ := oSl Try.underlying22 g2
      obtain ⟨A, hA⟩ := oWords g2
      obtain ⟨t', l', rfl, rfl⟩ := oWord g3
      exact ⟨(l0, t, l, s', A, t', l'), hcell 0 (by omega), hcell 1 (by omega), hcell 2 (by omega), hcell 3 (by omega), hcell 4 (by omega), hcell 5 (by omega), hA⟩
    obtain ⟨q, hq⟩ := Deep.choose_lt each
    exact ⟨fun i => (q i).2.2.2.1, ⟨fun i => (q i).1, fun i => (q i).2.1, fun i => (q i).2.2.1, fun i => (q i).2.2.2.2.1, fun i => (q i).2.2.2.2.2.1, fun i => (q i).2.2.2.2.2.2⟩, Or.inr ⟨b, o, ha, fun i hi => hq i hi⟩⟩

set_option maxRecDepth 100000 in
/-- an argument that is a spec, opened. -/
theorem oSpec {r : Reach} {b0 : Nat} {v : Value} {d : DataW H} {p : List MemPlace} (hv : Value.okWide Try.prog W r b0 28 v) (h : DataW.Trod enc Try.prog W 0 (fun _ => true) true 28 v d p) : ∃ S : Sp, v = S.val ∧ S.lies W := by
  obtain ⟨cs, rfl, hsz⟩ := okWide_struct Try.underlying28 hv
  obtain ⟨fuel, hf⟩ := h
  obtain ⟨xs, m, _, _, _, hxl, hf⟩ := DataW.trod_struct Try.underlying28 hf
  have g0 := hf 0 _ rfl
  have g1 := hf 1 _ rfl
  have g2 := hf 2 _ rfl
  have g3 := hf 3 _ rfl
  have g4 := hf 4 _ rfl
  have g5 := hf 5 _ rfl
  rw [c28] at hsz
  obtain ⟨l⟩ := cs
  obtain ⟨y0, y1, y2, y3, y4, y5, rfl⟩ := list6 hxl
  obtain ⟨v0, v1, v2, v3, v4, v5, rfl⟩ := list6 hsz
  simp [Value.cells, c22, c23, c24, c25, c26] at g0 g1 g2 g3 g4 g5
  obtain ⟨s0, rfl⟩ := oSl Try.underlying22 g0
  obtain ⟨s1, rfl⟩ := oSl Try.underlying23 g1
  obtain ⟨s2, rfl⟩ := oSl Try.underlying24 g2
  obtain ⟨s3, rfl⟩ := oSl Try.underlying25 g3
  obtain ⟨s4, rfl⟩ := oSl Try.underlying26 g4
  obtain ⟨s5, rfl⟩ := oSl Try.underlying26 g5
  obtain ⟨P, hP⟩ := oWords g0
  obtain ⟨rv, R, hR⟩ := oRoles Try.underlying23 Try.underlying68 c68 rfl rfl rfl rfl g1
  obtain ⟨uv, U, hU⟩ := oRoles Try.underlying24 Try.underlying70 c70 rfl rfl rfl rfl g2
  obtain ⟨gv, G, hG⟩ := oGrants Try.underlying25 Try.underlying72 c72 rfl rfl rfl rfl rfl rfl rfl rfl g3
  obtain ⟨xv, X, hX⟩ := oGrants Try.underlying26 Try.underlying74 c74 rfl rfl rfl rfl rfl rfl rfl rfl g4
  obtain ⟨yv, Y, hY⟩ := oGrants Try.underlying26 Try.underlying74 c74 rfl rfl rfl rfl rfl rfl rfl rfl g5
  exact ⟨⟨s0, P, s1, rv, R, s2, uv, U, s3, gv, G, s4, xv, X, s5, yv, Y⟩, rfl, hP, hR, hU, hG, hX, hY⟩
end

end Go.Proofs.Qxb6614661aR
