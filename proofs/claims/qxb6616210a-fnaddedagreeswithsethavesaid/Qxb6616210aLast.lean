/-
  A REGION THAT DRAWS ITS ORDER AND ENDS IN A CALL THAT WRITES WHAT THE REGION READ ('r.swap(r.pos[i], r.start[g] + r.rnd.IntN(..))'). The library's law (Derived/OrdersHeld.lean) takes a load first under a condition S that must hold behind EVERY operation: behind the swap it does not. Here: S must hold behind every operation but the one numbered 'ex', and that one waits, through the region's own edges, for each load that is taken first. My own law, on the library's 'YieldsIf', 'wpOp_putIf', 'wpAny'.
-/
import Derived.OrdersHeld
import Derived.RegionTactic
import Derived.Deep.RegionHeld
namespace Go.Proofs.Qxb6616210a
open Go

section
variable {P : Program} {md : Region.Mode} {ops : Array Oper} {Q : Exit → Act → World → Prop} {S : World → Prop} {ex : Nat}

/-- Whoever has come up came up behind all that it waits for. -/
def Down (md : Region.Mode) (ops : Array Oper) (listed : Array Bool) : Prop :=
  ∀ k o, listed.getD k false = true → ops[k]? = some o → ∀ e ∈ o.after, Region.binds md e = true → listed.getD e.on false = true

theorem Down.start (n : Nat) : Down md ops (Array.replicate n false) := by
  intro k o h
  exfalso
  rw [Array.getD_eq_getD_getElem?] at h
  by_cases hk : k < n
  · simp [hk] at h
  · simp [Nat.not_lt.1 hk] at h

theorem Down.set {listed : Array Bool} (h : Down md ops listed) {j : Nat} (hj : j ∈ Region.ready md ops listed) : Down md ops (listed.setIfInBounds j true) := by
  intro k o hk ho e he hb
  by_cases e0 : j = k
  · subst e0
    obtain ⟨_, o', ho', hall⟩ := mem_ready.1 hj
    rw [ho'] at ho
    cases ho
    exact getD_set_true (hall e he hb)
  · rw [getD_set_ne false e0] at hk
    exact getD_set_true (h k o hk ho e he hb)

/-- j waits for i, through the edges. -/
def waits (md : Region.Mode) (ops : Array Oper) : Nat → Nat → Nat → Bool
  | 0, _, _ => false
  | f + 1, j, i => match ops[j]? with
    | none => false
    | some o => o.after.toList.any fun e => Region.binds md e && (e.on == i || waits md ops f e.on i)

theorem waits_spec {i : Nat} : ∀ {f j : Nat} {listed : Array Bool} {o : Oper}, waits md ops f j i = true → Down md ops listed → ops[j]? = some o →
    (∀ e ∈ o.after, Region.binds md e = true → listed.getD e.on false = true) → listed.getD i false = true
  | 0, _, _, _, h, _, _, _ => by simp [waits] at h
  | f + 1, j, listed, o, h, hD, ho, hall => by
    unfold waits at h
    rw [ho] at h
    obtain ⟨e, he0, hb⟩ := List.any_eq_true.1 h
    have he : e ∈ o.after := by simpa using he0
    simp only [Bool.and_eq_true, Bool.or_eq_true, beq_iff_eq] at hb
    obtain ⟨hb1, hb2⟩ := hb
    have hl := hall e he hb1
    rcases hb2 with hb2 | hb2
    · rw [← hb2]; exact hl
    · cases hoe : ops[e.on]? with
      | none =>
        cases f with
        | zero => simp [waits] at hb2
        | succ f => unfold waits at hb2; rw [hoe] at hb2; cases hb2
      | some o2 => exact waits_spec hb2 hD hoe (fun e2 he2 h2 => hD e.on o2 hl hoe e2 he2 h2)

theorem waits_not_ready {f i : Nat} {listed : Array Bool} (h : waits md ops f ex i = true) (hD : Down md ops listed) (hi : listed.getD i true = false) : ex ∉ Region.ready md ops listed := by
  intro hex
  obtain ⟨_, o, ho, hall⟩ := mem_ready.1 hex
  have := waits_spec h hD ho hall
  rcases Nat.lt_or_ge i listed.size with h' | h'
  · simp [h'] at hi this; rw [hi] at this; cases this
  · simp [Array.getElem?_eq_none h'] at this

/-- Whatever order is picked from here on; S holds behind every operation but 'ex'. -/
def anyBut (P : Program) (md : Region.Mode) (ops : Array Oper) (Q : Exit → Act → World → Prop) (S : World → Prop) (ex : Nat) : Nat → Array Bool → Act → World → Prop
  | 0, listed, a, w => Region.ready md ops listed = [] ∧ Q .normal a w
  | fuel + 1, listed, a, w =>
    (Region.ready md ops listed = [] → Q .normal a w) ∧
    ∀ i ∈ Region.ready md ops listed, wpOp P ops Q i (fun a' w' => (i = ex ∨ S w') ∧ anyBut P md ops Q S ex fuel (listed.setIfInBounds i true) a' w') a w

theorem any_of_but : ∀ (fuel : Nat) (listed : Array Bool) (a : Act) (w : World), anyBut P md ops Q S ex fuel listed a w → wpAny P md ops Q fuel listed a w
  | 0, _, _, _, h => h
  | fuel + 1, _, _, _, h => ⟨h.1, fun i hi => wpOp_mono (fun a' w' h' => any_of_but fuel _ a' w' h'.2) (h.2 i hi)⟩

theorem but_first {i f : Nat} {oi : Oper} {v : Value} (hi : ops[i]? = some oi) (hsel : ∀ (j : Nat) (o : Oper) cs b, ops[j]? = some o → o.op ≠ .select cs b)
    (hQ : ∀ c a w, Q (.panic c) (a.put oi.dst v) w → Q (.panic c) a w) (hw : waits md ops f ex i = true) :
    ∀ (fuel : Nat) (listed : Array Bool) (a : Act) (w : World), Down md ops listed →
      (∀ j oj, ops[j]? = some oj → j ≠ i → listed.getD j true = false → (∀ e ∈ oj.after, Region.binds md e = true → e.on ≠ i) → oi.apart ops oj = true) →
      i ∈ Region.ready md ops listed → YieldsIf P ops S oi v a → S w →
      anyBut P md ops Q S ex fuel (listed.setIfInBounds i true) (a.put oi.dst v) w → anyBut P md ops Q S ex (fuel + 1) listed a w := by
  intro fuel
  induction fuel with
  | zero =>
    intro listed a w _ _ hr hy hS H
    refine ⟨fun h => (by rw [h] at hr; cases hr), fun j hj => ?_⟩
    by_cases hji : j = i
    · subst hji; exact hy.wpOp hi hS ⟨.inr hS, H⟩
    · have := ready_mono hj hji
      rw [H.1] at this
      cases this
  | succ fuel ih =>
    intro listed a w hD hfree hr hy hS H
    refine ⟨fun h => (by rw [h] at hr; cases hr), fun j hj => ?_⟩
    by_cases hji : j = i
    · subst hji; exact hy.wpOp hi hS ⟨.inr hS, H⟩
    · have hiun := (mem_ready.1 hr).1
      have hjex : j ≠ ex := fun e => waits_not_ready hw hD hiun (e ▸ hj)
      have h1 := H.2 j (ready_mono hj hji)
      obtain ⟨hjun, oj, hoj, hall⟩ := mem_ready.1 hj
      have hnot : ∀ e ∈ oj.after, Region.binds md e = true → e.on ≠ i := fun e he hb heq => by
        have h1 := hall e he hb
        rw [heq] at h1
        rcases Nat.lt_or_ge i listed.size with h' | h'
        · simp [h'] at hiun h1; rw [hiun] at h1; cases h1
        · simp [Array.getElem?_eq_none h'] at h1
      have h2 := wpOp_putIf hoj (hfree j oj hoj hji hjun hnot) (fun cs b => hsel i oi cs b hi) (fun cs b => hsel j oj cs b hoj) hQ hy h1
      have hfree' : ∀ k ok, ops[k]? = some ok → k ≠ i → (listed.setIfInBounds j true).getD k true = false →
          (∀ e ∈ ok.after, Region.binds md e = true → e.on ≠ i) → oi.apart ops ok = true := fun k ok hk hki hun hno => by
        refine hfree k ok hk hki ?_ hno
        by_cases hjk : j = k
        · subst hjk; exact hjun
        · rw [getD_set_ne true hjk] at hun; exact hun
      refine wpOp_mono (fun a' w' h3 => ?_) h2
      have hS' : S w' := h3.2.1.resolve_left hjex
      refine ⟨.inr hS', ih (listed.setIfInBounds j true) a' w' (hD.set hj) hfree' (ready_mono hr (Ne.symm hji)) h3.1 hS' ?_⟩
      rw [Array.setIfInBounds_comm _ _ hji]
      exact h3.2.2

/-- The walk's own goal: 'listed' is downward closed. -/
def But (P : Program) (md : Region.Mode) (ops : Array Oper) (Q : Exit → Act → World → Prop) (S : World → Prop) (ex : Nat) (fuel : Nat) (listed : Array Bool) (a : Act) (w : World) : Prop :=
  Down md ops listed → anyBut P md ops Q S ex fuel listed a w

/-- Take number i first. -/
theorem But.take {i f : Nat} {oi : Oper} {v : Value} {fuel : Nat} {listed : Array Bool} {a : Act} {w : World} (hi : ops[i]? = some oi)
    (hs : Region.noSelect ops = true) (hf : Region.free md ops listed i = true) (hr : (Region.ready md ops listed).contains i = true) (hw : waits md ops f ex i = true)
    (hQ : ∀ c a w, Q (.panic c) (a.put oi.dst v) w → Q (.panic c) a w) (hy : YieldsIf P ops S oi v a) (hS : S w)
    (h : But P md ops Q S ex fuel (listed.setIfInBounds i true) (a.put oi.dst v) w) : But P md ops Q S ex (fuel + 1) listed a w := fun hD =>
  have hr' : i ∈ Region.ready md ops listed := by simpa using hr
  but_first hi (Region.noSelect_spec hs) hQ hw fuel listed a w hD (Region.free_spec hi hf) hr' hy hS (h (hD.set hr'))

/-- One alone may come up. -/
theorem But.one {i : Nat} {o : Oper} {fuel : Nat} {listed : Array Bool} {a : Act} {w : World} (ho : ops[i]? = some o) (hr : Region.ready md ops listed = [i])
    (h : ∀ K : Act → World → Prop, Shut (∀ a w, (i = ex ∨ S w) → But P md ops Q S ex fuel (listed.setIfInBounds i true) a w → K a w) →
      if Region.wanted o (yielded ops a.tmps) = true then Oper.wp P o a w K Q else K (a.put o.dst undef) w) : But P md ops Q S ex (fuel + 1) listed a w := fun hD => by
  have hi : i ∈ Region.ready md ops listed := by rw [hr]; simp
  refine ⟨fun h0 => (by rw [hr] at h0; cases h0), fun j hj => ?_⟩
  obtain rfl : j = i := by rw [hr] at hj; simpa using hj
  exact wpOp_step ho (fun K hK => h K (fun a w h1 h2 => hK a w ⟨h1, h2 (hD.set hi)⟩))

theorem But.done {fuel : Nat} {listed : Array Bool} {a : Act} {w : World} (hr : Region.ready md ops listed = []) (h : Q .normal a w) : But P md ops Q S ex fuel listed a w := fun _ => by
  cases fuel with
  | zero => exact ⟨hr, h⟩
  | succ f => exact ⟨fun _ => h, by rw [hr]; simp⟩

/-- The beginning. -/
theorem region_but {id : Nat} {a : Act} {w : World} (S : World → Prop) (ex : Nat) (hm : P.follows .mixedOrders = true)
    (h : But P .any ops Q S ex ops.size (Array.replicate ops.size false) a w.drew) : (Code.region id ops true).wp P Q a w :=
  wp_region_any hm (any_of_but _ _ _ _ (h (Down.start _)))
end
end Go.Proofs.Qxb6616210a
