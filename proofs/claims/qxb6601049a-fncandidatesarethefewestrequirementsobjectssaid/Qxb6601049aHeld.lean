/-
  The moves of a walk through a region that draws its order, with the operation and its slot written out (over the kit's 'wpAnyH').
-/
import Derived.WalkKit
import Derived.Deep.RegionHeld3
namespace Go.Proofs.Qxb6601049a
set_option linter.unusedVariables false

section
variable {P : Program} {l : List Oper} {Q : Exit → Act → World → Prop} {S : World → Prop}

theorem drop_get {α : Type} : ∀ {l : List α} {i : Nat} {o : α} {rest : List α}, l.drop i = o :: rest → l[i]? = some o
  | [], i, o, rest, h => by simp at h
  | x :: l, 0, o, rest, h => by simp at h; simp [h.1]
  | x :: l, i + 1, o, rest, h => by simp at h; simpa using drop_get h

/-- the beginning -/
theorem startH {id : Nat} {a : Act} {w : World} (n : Nat) (hn : l.length = n) (hm : P.follows .mixedOrders = true) (hS : S w.drew)
    (h : S w.drew → wpAnyH P .any l.toArray Q S n (Array.replicate n false) a w.drew) : (Code.region id l.toArray true).wp P Q a w := by
  subst hn
  exact wp_region_held_drew hm hS (by simpa using h)

/-- an operation that yields 'v' in every world that meets S is taken first -/
theorem takeH (i d : Nat) {o : Oper} {rest : List Oper} {v : Value} {fuel : Nat} {listed : Array Bool} {tmps : Array Value} {w : World} (hi : l.drop i = o :: rest) (hd : o.dst = some d)
    (hs : Region.noSelect l.toArray = true) (hf : Region.free .any l.toArray listed i = true) (hr : (Region.ready .any l.toArray listed).contains i = true)
    (hQ : ∀ c a w, Q (.panic c) (a.put o.dst v) w → Q (.panic c) a w) (hw : Region.wanted o (yielded l.toArray tmps) = true) (hy : ∀ w, S w → (execOp (Act.mk tmps []).eval o).run P w = .ok (.value v) w) (hS : S w)
    (h : wpAnyH P .any l.toArray Q S fuel (listed.setIfInBounds i true) ⟨tmps.setIfInBounds d v, []⟩ w) : wpAnyH P .any l.toArray Q S (fuel + 1) listed ⟨tmps, []⟩ w := by
  refine wpAnyH_take (i := i) (oi := o) (v := v) (by simpa using drop_get hi) hs hf hr hQ (Or.inl ⟨hw, hy⟩) hS ?_
  rw [hd]
  exact h

/-- one operation alone may come up -/
theorem oneH (i : Nat) {o : Oper} {rest : List Oper} {fuel : Nat} {listed : Array Bool} {tmps : Array Value} {w : World} (hi : l.drop i = o :: rest) (hr : Region.ready .any l.toArray listed = [i]) (hw : Region.wanted o (yielded l.toArray tmps) = true)
    (h : ∀ K' : Act → World → Prop, Shut (∀ a w, S w → (S w → wpAnyH P .any l.toArray Q S fuel (listed.setIfInBounds i true) a w) → K' a w) → Oper.wp P o ⟨tmps, []⟩ w K' Q) : wpAnyH P .any l.toArray Q S (fuel + 1) listed ⟨tmps, []⟩ w := by
  refine wpAnyH_ready hr (by simp) (AllReadyH.cons (o := o) (by simpa using drop_get hi) (fun K' hK => ?_) AllReadyH.nil)
  rw [if_pos hw]
  exact h K' hK

/-- two may come up -/
theorem twoH (i j : Nat) {o o' : Oper} {rest rest' : List Oper} {fuel : Nat} {listed : Array Bool} {tmps : Array Value} {w : World} (hi : l.drop i = o :: rest) (hj : l.drop j = o' :: rest') (hr : Region.ready .any l.toArray listed = [i, j])
    (hw : Region.wanted o (yielded l.toArray tmps) = true) (hw' : Region.wanted o' (yielded l.toArray tmps) = true)
    (h : ∀ K' : Act → World → Prop, Shut (∀ a w, S w → (S w → wpAnyH P .any l.toArray Q S fuel (listed.setIfInBounds i true) a w) → K' a w) → Oper.wp P o ⟨tmps, []⟩ w K' Q)
    (h' : ∀ K' : Act → World → Prop, Shut (∀ a w, S w → (S w → wpAnyH P .any l.toArray Q S fuel (listed.setIfInBounds j true) a w) → K' a w) → Oper.wp P o' ⟨tmps, []⟩ w K' Q) : wpAnyH P .any l.toArray Q S (fuel + 1) listed ⟨tmps, []⟩ w := by
  refine wpAnyH_ready hr (by simp) (AllReadyH.cons (o := o) (by simpa using drop_get hi) (fun K' hK => ?_) (AllReadyH.cons (o := o') (by simpa using drop_get hj) (fun K' hK => ?_) AllReadyH.nil))
  · rw [if_pos hw]
    exact h K' hK
  · rw [if_pos hw']
    exact h' K' hK

/-- 'm[k] = v' at the operation -/
theorem wp_mapUpdate_run {o : Oper} {a : Act} {K : Act → World → Prop} {w w' : World} (m x v : Operand) (t : TypeId) (hop : o.op = Op.mapUpdate t m x v) {mv kv vv : Value} (hm : a.eval m = mv) (hx : a.eval x = kv) (hv : a.eval v = vv)
    (hrun : (Instr.mapUpdate t mv kv vv).run P w = .ok () w') (h : K (a.put o.dst undef) w') : o.wp P a w K Q := by
  unfold Oper.wp
  simp [execOp, hop, hm, hx, hv, hrun, Result.andThen]
  exact h

end

/-! ### the same, with S not asked behind the last operation -/

/-- whatever order is picked from here on; S holds behind every operation but the last -/
def wpAnyU (P : Program) (md : Region.Mode) (ops : Array Oper) (Q : Exit → Act → World → Prop) (S : World → Prop) : Nat → Array Bool → Act → World → Prop
  | 0, listed, a, w => Region.ready md ops listed = [] ∧ Q .normal a w
  | fuel + 1, listed, a, w =>
    (Region.ready md ops listed = [] → Q .normal a w) ∧
    ∀ i ∈ Region.ready md ops listed, wpOp P ops Q i (fun a' w' => ((listed.setIfInBounds i true).all id = false → S w') ∧ wpAnyU P md ops Q S fuel (listed.setIfInBounds i true) a' w') a w

section
variable {P : Program} {ops : Array Oper} {Q : Exit → Act → World → Prop} {md : Region.Mode} {S : World → Prop}

theorem wpAny_of_U : ∀ (fuel : Nat) (listed : Array Bool) (a : Act) (w : World), wpAnyU P md ops Q S fuel listed a w → wpAny P md ops Q fuel listed a w
  | 0, _, _, _, h => h
  | fuel + 1, _, _, _, h => ⟨h.1, fun i hi => wpOp_mono (fun a' w' h' => wpAny_of_U fuel _ a' w' h'.2) (h.2 i hi)⟩

/-- somebody who has not come up waits for i -/
def waits (md : Region.Mode) (ops : Array Oper) (listed : Array Bool) (i : Nat) : Bool :=
  (List.range ops.size).any fun z => z != i && !(listed.getD z true) && (match ops[z]? with | some oz => oz.after.any (fun e => Region.binds md e && e.on == i) | none => false)

theorem waits_spec {i : Nat} {listed : Array Bool} (h : waits md ops listed i = true) : ∃ z oz, z ≠ i ∧ listed.getD z true = false ∧ ops[z]? = some oz ∧ ∃ e ∈ oz.after, Region.binds md e = true ∧ e.on = i := by
  unfold waits at h
  obtain ⟨z, hz, h⟩ := List.any_eq_true.1 h
  simp only [Bool.and_eq_true, bne_iff_ne, Bool.not_eq_true'] at h
  obtain ⟨⟨h1, h2⟩, h3⟩ := h
  cases ho : ops[z]? with
  | none => rw [ho] at h3; cases h3
  | some oz =>
    rw [ho] at h3
    obtain ⟨e, he, hb⟩ := Array.any_eq_true'.1 h3
    simp only [Bool.and_eq_true, beq_iff_eq] at hb
    exact ⟨z, oz, h1, h2, ho, e, he, hb⟩

theorem not_all {listed : Array Bool} {z : Nat} (h : listed.getD z true = false) : listed.all id = false := by
  cases e : listed.all id with
  | false => rfl
  | true =>
    rcases Nat.lt_or_ge z listed.size with hz | hz
    · have := Array.all_eq_true_iff_forall_mem.1 e _ (Array.getElem_mem hz)
      simp [hz] at h
      simp at this
      rw [h] at this
      cases this
    · simp [Array.getElem?_eq_none hz] at h

theorem wpAnyU_first {i : Nat} {oi : Oper} {v : Value} (hi : ops[i]? = some oi) (hsel : ∀ (j : Nat) (o : Oper) cs b, ops[j]? = some o → o.op ≠ .select cs b)
    (hQ : ∀ c a w, Q (.panic c) (a.put oi.dst v) w → Q (.panic c) a w) :
    ∀ (fuel : Nat) (listed : Array Bool) (a : Act) (w : World),
      (∀ j oj, ops[j]? = some oj → j ≠ i → listed.getD j true = false → (∀ e ∈ oj.after, Region.binds md e = true → e.on ≠ i) → oi.apart ops oj = true) →
      (∃ z oz, z ≠ i ∧ listed.getD z true = false ∧ ops[z]? = some oz ∧ ∃ e ∈ oz.after, Region.binds md e = true ∧ e.on = i) →
      i ∈ Region.ready md ops listed → YieldsIf P ops S oi v a → S w →
      wpAnyU P md ops Q S fuel (listed.setIfInBounds i true) (a.put oi.dst v) w → wpAnyU P md ops Q S (fuel + 1) listed a w := by
  intro fuel
  induction fuel with
  | zero =>
    intro listed a w _ _ hr hy hS H
    refine ⟨fun h => (by rw [h] at hr; cases hr), fun j hj => ?_⟩
    by_cases hji : j = i
    · subst hji; exact hy.wpOp hi hS ⟨fun _ => hS, H⟩
    · have := ready_mono hj hji
      rw [H.1] at this
      cases this
  | succ fuel ih =>
    intro listed a w hfree hwt hr hy hS H
    refine ⟨fun h => (by rw [h] at hr; cases hr), fun j hj => ?_⟩
    by_cases hji : j = i
    · subst hji; exact hy.wpOp hi hS ⟨fun _ => hS, H⟩
    · have h1 := H.2 j (ready_mono hj hji)
      obtain ⟨hjun, oj, hoj, hall⟩ := mem_ready.1 hj
      have hnot : ∀ e ∈ oj.after, Region.binds md e = true → e.on ≠ i := fun e he hb heq => by
        have h1 := hall e he hb
        have h0 := (mem_ready.1 hr).1
        rw [heq] at h1
        rcases Nat.lt_or_ge i listed.size with h' | h'
        · simp [h'] at h0 h1; rw [h0] at h1; cases h1
        · simp [Array.getElem?_eq_none h'] at h1
      have h2 := wpOp_putIf hoj (hfree j oj hoj hji hjun hnot) (fun cs b => hsel i oi cs b hi) (fun cs b => hsel j oj cs b hoj) hQ hy h1
      have hfree' : ∀ k ok, ops[k]? = some ok → k ≠ i → (listed.setIfInBounds j true).getD k true = false →
          (∀ e ∈ ok.after, Region.binds md e = true → e.on ≠ i) → oi.apart ops ok = true := fun k ok hk hki hun hno => by
        refine hfree k ok hk hki ?_ hno
        by_cases hjk : j = k
        · subst hjk; exact hjun
        · rw [getD_set_ne true hjk] at hun; exact hun
      obtain ⟨z, oz, hzi, hzl, hoz, e, he, hb, heon⟩ := hwt
      have hzj : j ≠ z := by
        rintro rfl
        rw [hoj] at hoz
        cases hoz
        exact hnot e he hb heon
      have hzl' : (listed.setIfInBounds j true).getD z true = false := by rw [getD_set_ne true hzj]; exact hzl
      have hzl2 : ((listed.setIfInBounds i true).setIfInBounds j true).getD z true = false := by rw [getD_set_ne true hzj, getD_set_ne true (Ne.symm hzi)]; exact hzl
      refine wpOp_mono (fun a' w' h3 => ?_) h2
      have hS' := h3.2.1 (not_all hzl2)
      refine ⟨fun _ => hS', ih (listed.setIfInBounds j true) a' w' hfree' ⟨z, oz, hzi, hzl', hoz, e, he, hb, heon⟩ (ready_mono hr (Ne.symm hji)) h3.1 hS' ?_⟩
      rw [Array.setIfInBounds_comm _ _ hji]
      exact h3.2.2

end

section
variable {P : Program} {l : List Oper} {Q : Exit → Act → World → Prop} {S : World → Prop}

/-- the beginning -/
theorem startU {id : Nat} {a : Act} {w : World} (n : Nat) (hn : l.length = n) (hm : P.follows .mixedOrders = true)
    (h : wpAnyU P .any l.toArray Q S n (Array.replicate n false) a w.drew) : (Code.region id l.toArray true).wp P Q a w := by
  subst hn
  exact wp_region_any hm (wpAny_of_U _ _ _ _ (by simpa using h))

/-- an operation that yields 'v' in every world that meets S is taken first -/
theorem takeU (i d : Nat) {o : Oper} {rest : List Oper} {v : Value} {fuel : Nat} {listed : Array Bool} {tmps : Array Value} {w : World} (hi : l.drop i = o :: rest) (hd : o.dst = some d)
    (hs : Region.noSelect l.toArray = true) (hf : Region.free .any l.toArray listed i = true) (hwt : waits .any l.toArray listed i = true) (hr : (Region.ready .any l.toArray listed).contains i = true)
    (hQ : ∀ c a w, Q (.panic c) (a.put o.dst v) w → Q (.panic c) a w) (hw : Region.wanted o (yielded l.toArray tmps) = true) (hS : S w) (hy : ∀ w, S w → (execOp (Act.mk tmps []).eval o).run P w = .ok (.value v) w)
    (h : wpAnyU P .any l.toArray Q S fuel (listed.setIfInBounds i true) ⟨tmps.setIfInBounds d v, []⟩ w) : wpAnyU P .any l.toArray Q S (fuel + 1) listed ⟨tmps, []⟩ w := by
  refine wpAnyU_first (i := i) (oi := o) (v := v) (by simpa using drop_get hi) (Region.noSelect_spec hs) hQ fuel listed _ w (Region.free_spec (by simpa using drop_get hi) hf) (waits_spec hwt) (by simpa using hr) (Or.inl ⟨hw, hy⟩) hS ?_
  rw [hd]
  exact h

/-- one operation alone may come up -/
theorem oneU (i : Nat) {o : Oper} {rest : List Oper} {fuel : Nat} {listed : Array Bool} {tmps : Array Value} {w : World} (hi : l.drop i = o :: rest) (hr : Region.ready .any l.toArray listed = [i]) (hw : Region.wanted o (yielded l.toArray tmps) = true)
    (h : ∀ K' : Act → World → Prop, Shut (∀ a w, ((listed.setIfInBounds i true).all id = false → S w) → wpAnyU P .any l.toArray Q S fuel (listed.setIfInBounds i true) a w → K' a w) → Oper.wp P o ⟨tmps, []⟩ w K' Q) : wpAnyU P .any l.toArray Q S (fuel + 1) listed ⟨tmps, []⟩ w := by
  refine ⟨fun h0 => (by rw [hr] at h0; cases h0), fun j hj => ?_⟩
  rw [hr] at hj
  have e : j = i := by simpa using hj
  subst e
  refine wpOp_step (by simpa using drop_get hi) (fun K' hK => ?_)
  rw [if_pos hw]
  exact h K' (fun a w hS hW => hK a w ⟨hS, hW⟩)

/-- all have come up -/
theorem doneU {listed : Array Bool} {a : Act} {w : World} {fuel : Nat} (hr : Region.ready .any l.toArray listed = []) (h : Q .normal a w) : wpAnyU P .any l.toArray Q S fuel listed a w := by
  cases fuel with
  | zero => exact ⟨hr, h⟩
  | succ _ => exact ⟨fun _ => h, by rw [hr]; simp⟩

/-- the last operation -/
theorem lastU (i : Nat) {o : Oper} {rest : List Oper} {fuel : Nat} {listed : Array Bool} {tmps : Array Value} {w : World} (hi : l.drop i = o :: rest) (hr : Region.ready .any l.toArray listed = [i]) (hall : (listed.setIfInBounds i true).all id = true) (hr2 : Region.ready .any l.toArray (listed.setIfInBounds i true) = []) (hw : Region.wanted o (yielded l.toArray tmps) = true)
    (h : ∀ K' : Act → World → Prop, Shut (∀ a w, Q .normal a w → K' a w) → Oper.wp P o ⟨tmps, []⟩ w K' Q) : wpAnyU P .any l.toArray Q S (fuel + 1) listed ⟨tmps, []⟩ w :=
  oneU i hi hr hw fun K' hK' => h K' fun a w hq => hK'.out a w (fun hc => by rw [hall] at hc; cases hc) (doneU hr2 hq)

end

end Go.Proofs.Qxb6601049a

