import Derived.Test.Qxb6614661aRXe
namespace Go.Proofs.Qxb6614661aR
open Go.RowKit

/-- the post of a region without its last operation: that operation, carried out behind the others. -/
def PopQ (P : Program) (ops : Array Oper) (Q : Exit → Act → World → Prop) (n : Nat) : Exit → Act → World → Prop
  | .normal, a, w => wpOp P ops Q n (fun a' w' => Q .normal a' w') a w
  | e, a, w => Q e a w

/-- the last operation waits for all others; every other waits for earlier ones alone; none is guarded. -/
def popOk (ops : Array Oper) (n : Nat) : Bool :=
  ops.size == n + 1 && ops.all (fun o => o.guard.isNone) && (List.range n).all (fun i => ((ops[n]?).map (fun o => o.after.any (fun e => e.on == i && Region.binds .any e))).getD false) &&
    (List.range (n + 1)).all (fun j => ((ops[j]?).map (fun o => o.after.all (fun e => decide (e.on < j)))).getD false)

structure PopOk (ops : Array Oper) (n : Nat) : Prop where
  size : ops.size = n + 1
  bare : ∀ {j : Nat} {o : Oper}, ops[j]? = some o → o.guard = none
  last : ∀ {o : Oper}, ops[n]? = some o → ∀ i, i < n → ∃ e ∈ o.after, e.on = i ∧ Region.binds .any e = true
  early : ∀ {j : Nat} {o : Oper}, ops[j]? = some o → ∀ e ∈ o.after, e.on < j
theorem PopOk.of {ops : Array Oper} {n : Nat} (h : popOk ops n = true) : PopOk ops n := by
  simp only [popOk, Bool.and_eq_true, beq_iff_eq] at h
  obtain ⟨⟨⟨hs, hg⟩, hl⟩, he⟩ := h
  refine ⟨hs, fun {j o} ho => ?_, fun {o} ho i hi => ?_, fun {j o} ho e hm => ?_⟩
  · rw [Array.all_eq_true_iff_forall_mem] at hg
    have := hg o (Array.mem_of_getElem? ho)
    cases hgo : o.guard with
    | none => rfl
    | some g => rw [hgo] at this; cases this
  · rw [List.all_eq_true] at hl
    have := hl i (List.mem_range.2 hi)
    simp only [ho, Option.map_some, Option.getD_some] at this
    rw [Array.any_eq_true'] at this
    obtain ⟨e, he1, he2⟩ := this
    simp only [Bool.and_eq_true, beq_iff_eq] at he2
    exact ⟨e, he1, he2⟩
  · have hj : j < ops.size := (Array.getElem?_eq_some_iff.1 ho).1
    rw [List.all_eq_true] at he
    have := he j (List.mem_range.2 (by omega))
    simp only [ho, Option.map_some, Option.getD_some, Array.all_eq_true_iff_forall_mem, decide_eq_true_eq] at this
    exact this e hm

section
variable {P : Program} {ops : Array Oper} {Q : Exit → Act → World → Prop} {n : Nat}

theorem getD_push_lt {L : Array Bool} {j : Nat} (d : Bool) (h : j < L.size) : (L.push false).getD j d = L.getD j d := by
  simp [Array.getElem?_push, Nat.ne_of_lt h]
theorem getD_true {L : Array Bool} {j : Nat} (h : j < L.size) : L.getD j true = L.getD j false := by
  simp [h]
theorem pop_get {j : Nat} (hn : ops.size = n + 1) (h : j < n) : ops.pop[j]? = ops[j]? := by
  rw [Array.getElem?_pop]; simp [hn, h]

theorem ready_pop {L : Array Bool} (hp : PopOk ops n) (hL : L.size = n) {j : Nat} (hj : j < n) : j ∈ Region.ready .any ops (L.push false) ↔ j ∈ Region.ready .any ops.pop L := by
  rw [mem_ready, mem_ready, pop_get hp.size hj, getD_push_lt true (by omega)]
  refine and_congr_right fun _ => ⟨?_, ?_⟩
  · rintro ⟨o, ho, h⟩
    refine ⟨o, ho, fun e he hb => ?_⟩
    have h1 := hp.early ho e he
    rw [← getD_push_lt false (by omega : e.on < L.size)]; exact h e he hb
  · rintro ⟨o, ho, h⟩
    refine ⟨o, ho, fun e he hb => ?_⟩
    have h1 := hp.early ho e he
    rw [getD_push_lt false (by omega : e.on < L.size)]; exact h e he hb

theorem all_listed {L : Array Bool} (hp : PopOk ops n) (hL : L.size = n) (h : Region.ready .any ops.pop L = []) : ∀ i, i < n → L.getD i false = true := by
  intro i
  induction i using Nat.strongRecOn with
  | ind i ih =>
    intro hi
    cases hc : L.getD i false with
    | true => rfl
    | false =>
      exfalso
      have hlt : i < ops.size := by have := hp.size; omega
      have : i ∈ Region.ready .any ops.pop L := by
        rw [mem_ready, getD_true (by omega), pop_get hp.size hi]
        refine ⟨hc, ops[i], by simp [hlt], fun e he _ => ?_⟩
        have h1 := hp.early (j := i) (o := ops[i]) (by simp [hlt]) e he
        exact ih e.on h1 (by omega)
      rw [h] at this
      cases this

theorem none_ready {L : Array Bool} (hp : PopOk ops n) (hL : L.size = n) (hall : ∀ i, i < n → L.getD i false = true) : Region.ready .any ops ((L.push false).setIfInBounds n true) = [] := by
  rw [List.eq_nil_iff_forall_not_mem]
  intro j hj
  rw [mem_ready] at hj
  obtain ⟨h0, o, ho, _⟩ := hj
  have hjs : j < ops.size := (Array.getElem?_eq_some_iff.1 ho).1
  have hs := hp.size
  by_cases hjn : j = n
  · subst hjn
    have hlt : j < (L.push false).size := by simp; omega
    simp [hL] at h0
  · rw [getD_set_ne true (Ne.symm hjn), getD_push_lt true (by omega), getD_true (by omega), hall j (by omega)] at h0
    cases h0

theorem last_ready {L : Array Bool} (hp : PopOk ops n) (hL : L.size = n) (hall : ∀ i, i < n → L.getD i false = true) : n ∈ Region.ready .any ops (L.push false) := by
  have hs := hp.size
  have hlt : n < ops.size := by omega
  rw [mem_ready]
  refine ⟨?_, ops[n], by simp [hlt], fun e he _ => ?_⟩
  · simp [← hL]
  · have h1 := hp.early (j := n) (o := ops[n]) (by simp [hlt]) e he
    rw [getD_push_lt false (by omega)]; exact hall _ h1

theorem of_last {L : Array Bool} (hp : PopOk ops n) (hL : L.size = n) (h : n ∈ Region.ready .any ops (L.push false)) : ∀ i, i < n → L.getD i false = true := by
  intro i hi
  rw [mem_ready] at h
  obtain ⟨_, o, ho, hall⟩ := h
  obtain ⟨e, he, rfl, hb⟩ := hp.last ho i hi
  rw [← getD_push_lt false (by omega)]
  exact hall e he hb

theorem wpOp_pop {i : Nat} (hp : PopOk ops n) (hi : i < n) {K K' : Act → World → Prop} (hK : ∀ a w, K a w → K' a w) {a : Act} {w : World} (h : wpOp P ops.pop (PopQ P ops Q n) i K a w) : wpOp P ops Q i K' a w := by
  have hs := hp.size
  have hlt : i < ops.size := by omega
  have ho : ops[i]? = some ops[i] := by simp [hlt]
  have hw : ∀ y, Region.wanted ops[i] y = true := fun y => by unfold Region.wanted; rw [hp.bare ho]
  unfold wpOp at *
  rw [pop_get hs hi, ho] at h
  rw [ho]
  simp only [hw, if_true] at h ⊢
  rcases h with h | ⟨h1, h2⟩
  · refine .inl ?_
    unfold Oper.wp at *
    generalize (execOp a.eval ops[i]).run P w = r at *
    cases r with
    | ok m w' =>
      cases m <;> simp only [Oper.upon] at h ⊢ <;>
        first
          | exact hK _ _ h
          | exact Calls.mono h (fun e w'' he => by cases e <;> first | exact hK _ _ he | exact he)
          | exact Rows.mono h (fun _ _ he => hK _ _ he)
    | halt x w' => cases x <;> simp only [Oper.upon] at h ⊢ <;> exact h
  · exact .inr ⟨h1, h2⟩

theorem wpAny_pop (hp : PopOk ops n) : ∀ (fuel : Nat) (L : Array Bool) (a : Act) (w : World), L.size = n → wpAny P .any ops.pop (PopQ P ops Q n) fuel L a w → wpAny P .any ops Q (fuel + 1) (L.push false) a w := by
  have lastly : ∀ (fuel : Nat) (L : Array Bool) (a : Act) (w : World), L.size = n → (∀ i, i < n → L.getD i false = true) → PopQ P ops Q n .normal a w → wpOp P ops Q n (wpAny P .any ops Q fuel ((L.push false).setIfInBounds n true)) a w := by
    intro fuel L a w hL hall h
    refine wpOp_mono (fun a' w' hq => ?_) h
    have hr := none_ready hp hL hall
    cases fuel with
    | zero => exact ⟨hr, hq⟩
    | succ f => exact ⟨fun _ => hq, by rw [hr]; simp⟩
  have split : ∀ (L : Array Bool), L.size = n → ∀ i, i ∈ Region.ready .any ops (L.push false) → i = n ∨ i < n := by
    intro L hL i hi
    rw [mem_ready] at hi
    obtain ⟨_, o, ho, _⟩ := hi
    have := (Array.getElem?_eq_some_iff.1 ho).1
    have hs := hp.size
    omega
  intro fuel
  induction fuel with
  | zero =>
    intro L a w hL h
    have hall := all_listed hp hL h.1
    refine ⟨fun h0 => (by have := last_ready hp hL hall; rw [h0] at this; cases this), fun i hi => ?_⟩
    rcases split L hL i hi with rfl | hlt
    · exact lastly 0 L a w hL hall h.2
    · have := (ready_pop hp hL hlt).1 hi
      rw [h.1] at this; cases this
  | succ fuel ih =>
    intro L a w hL h
    have ends : Region.ready .any ops.pop L = [] → PopQ P ops Q n .normal a w := h.1
    refine ⟨fun h0 => ?_, fun i hi => ?_⟩
    · exfalso
      have he : Region.ready .any ops.pop L = [] := by
        rw [List.eq_nil_iff_forall_not_mem]
        intro j hj
        have hjn : j < n := by
          rw [mem_ready] at hj
          obtain ⟨_, o, ho, _⟩ := hj
          have := (Array.getElem?_eq_some_iff.1 ho).1
          have hs := hp.size
          simp at this
          omega
        have := (ready_pop hp hL hjn).2 hj
        rw [h0] at this; cases this
      have := last_ready hp hL (all_listed hp hL he)
      rw [h0] at this; cases this
    · rcases split L hL i hi with rfl | hlt
      · have hall := of_last hp hL hi
        have he : Region.ready .any ops.pop L = [] := by
          rw [List.eq_nil_iff_forall_not_mem]
          intro j hj
          rw [mem_ready] at hj
          obtain ⟨h0, o, ho, _⟩ := hj
          have := (Array.getElem?_eq_some_iff.1 ho).1
          have hs := hp.size
          simp at this
          rw [getD_true (by omega), hall j (by omega)] at h0
          cases h0
        exact lastly (fuel + 1) L a w hL hall (ends he)
      · refine wpOp_pop hp hlt (fun a' w' hk => ?_) (h.2 i ((ready_pop hp hL hlt).1 hi))
        have := ih (L.setIfInBounds i true) a' w' (by simpa using hL) hk
        have e : (L.push false).setIfInBounds i true = (L.setIfInBounds i true).push false := by
          apply Array.ext_getElem?
          intro j
          rw [Array.getElem?_setIfInBounds, Array.getElem?_push, Array.getElem?_push, Array.getElem?_setIfInBounds]
          simp only [Array.size_push, Array.size_setIfInBounds, hL]
          by_cases h1 : i = j
          · subst h1
            rw [if_pos rfl, if_pos (by omega), if_neg (by omega), if_pos rfl, if_pos hlt]
          · rw [if_neg h1, if_neg h1]
        rw [e]; exact this

/-- **A region whose last operation waits for all others**: the region without it, S held there, then that operation. -/
theorem wp_region_pop {ops' : Array Oper} {S : World → Prop} {id : Nat} {a : Act} {w : World} (n : Nat) (hm : P.follows .mixedOrders = true) (hp : popOk ops n = true) (he : ops.pop = ops') (hS : S w.drew)
    (h : S w.drew → wpAnyH P .any ops' (PopQ P ops Q n) S n (Array.replicate n false) a w.drew) : (Code.region id ops true).wp P Q a w := by
  subst he
  refine wp_region_any hm ?_
  rw [(PopOk.of hp).size]
  have := wpAny_pop (PopOk.of hp) n (Array.replicate n false) a w.drew (by simp) (wpAny_of_held _ _ _ _ (h hS))
  rw [← Array.replicate_succ] at this
  exact this

theorem popQ_last {a : Act} {w : World} {o : Oper} (ho : ops[n]? = some o)
    (h : ∀ K' : Act → World → Prop, Shut (∀ a w, Q .normal a w → K' a w) → if Region.wanted o (yielded ops a.tmps) = true then Oper.wp P o a w K' Q else K' (a.put o.dst undef) w) : PopQ P ops Q n .normal a w :=
  wpOp_step ho h
end

end Go.Proofs.Qxb6614661aR
