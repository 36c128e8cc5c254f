/-
  THE WALK OF add (34).
-/
import Derived.Test.Qxb6616210aRar
import Derived.Deep.Cut
namespace Go.Proofs.Qxb6616210a
open Go.RowKit Go.Lib
set_option linter.unusedSimpArgs false

theorem Kept.cell1 {w : World} (a : Addr) (u : Value) : Kept (· = a.block) w (w.setCell a u) := Kept.setCell (F := (· = a.block)) (Kept.refl _ _) (fun _ => rfl) u

theorem RarAt.setStart {w : World} {br bR bp bo bq bg bs cap : Nat} {R : RS} (h : RarAt w br bR bp bo bq bg bs cap R) (k v : Nat) : RarAt (w.setCell ⟨bs, k, none⟩ (.int .i64 (v : Nat))) br bR bp bo bq bg bs cap { R with start := upd R.start k v } := by
  obtain ⟨rR, rp, ro, rq, rg, rs, Rp, Ro, Rq, Rg, Rs, po, pq, pg, ps, oq, og, os, qg, qs, gs⟩ := h.apart
  have hK := Kept.cell1 (w := w) ⟨bs, k, none⟩ (.int .i64 (v : Nat))
  exact ⟨hK.at h.obj rs, h.rnd.keep hK Rs, h.pcg.keep hK ps, h.state, h.order.keep hK os, h.pos.keep hK qs, h.group.keep hK gs, h.start.set k v, h.apart⟩
theorem RarAt.setGroup {w : World} {br bR bp bo bq bg bs cap : Nat} {R : RS} (h : RarAt w br bR bp bo bq bg bs cap R) (k v : Nat) : RarAt (w.setCell ⟨bg, k, none⟩ (.int .i64 (v : Nat))) br bR bp bo bq bg bs cap { R with group := upd R.group k v } := by
  obtain ⟨rR, rp, ro, rq, rg, rs, Rp, Ro, Rq, Rg, Rs, po, pq, pg, ps, oq, og, os, qg, qs, gs⟩ := h.apart
  have hK := Kept.cell1 (w := w) ⟨bg, k, none⟩ (.int .i64 (v : Nat))
  exact ⟨hK.at h.obj rg, h.rnd.keep hK Rg, h.pcg.keep hK pg, h.state, h.order.keep hK og, h.pos.keep hK qg, h.group.set k v, h.start.keep hK gs.symm, h.apart⟩

/-- What 'add' leaves. -/
def AddPost (br bR bp bo bq bg bs : Nat) (R : RS) (i : Nat) (w : World) (e : Ending) (w' : World) : Prop :=
  e = .returned (.tuple #[]) ∧ ∃ v S' bs' cap', Pcg.Rolls R.S (room R i R.S) v S' ∧ RarAt w' br bR bp bo bq bg bs' cap' (addR R i v S') ∧ (bs' = bs ∨ w.heap.size ≤ bs') ∧ Kept (fun k => k = br ∨ k = bp ∨ k = bo ∨ k = bq ∨ k = bg ∨ k = bs) w w'

/-- What the loads of 'add''s swap read. -/
def HeldSw (br bq bs n len cap i p g s1 : Nat) (W : World) : Prop :=
  W.cell? ⟨br, 2, none⟩ = some (.slice (some ⟨bq, 0, none⟩) n n) ∧ W.cell? ⟨bq, i, none⟩ = some (.int .i64 (p : Nat)) ∧ W.cell? ⟨br, 4, none⟩ = some (.slice (some ⟨bs, 0, none⟩) len cap) ∧ W.cell? ⟨bs, g + 1, none⟩ = some (.int .i64 (s1 : Nat))

theorem upd_self (f : Nat → Nat) (i : Nat) : upd f i (f i) = f := by
  funext j
  unfold upd
  split
  · rename_i h; rw [h]
  · rfl

/-- The state behind the counts' two stores is 'midR'. -/
theorem mid_eq (R R1 : RS) (i g : Nat) (hg : R.group i = g) (h1 : R1 = { R with len := if g + 2 = R.len then R.len + 1 else R.len, start := if g + 2 = R.len then upd R.start R.len R.n else R.start }) (hs : R1.start (g + 1) = R.start (g + 1)) :
    { swapR R1 (R.pos i) (R.start (g + 1) - 1) with start := upd R1.start (g + 1) (R.start (g + 1) - 1), group := upd R.group i (g + 1) } = midR R i R.S := by
  subst h1
  subst hg
  rfl


theorem lt_of_some {w : World} {b : Nat} {o : Obj} (h : w.heap[b]? = some o) : b < w.heap.size := by
  rcases Nat.lt_or_ge b w.heap.size with h' | h'
  · exact h'
  · rw [Array.getElem?_eq_none h'] at h; cases h
theorem StartAt.lt {w : World} {b len cap : Nat} {f : Nat → Nat} (h : StartAt w b len cap f) : b < w.heap.size := by
  obtain ⟨cur, h1, _⟩ := h
  exact lt_of_some h1

/-- The starts as the append's law wants them. -/
theorem StartAt.owns {w : World} {b len cap : Nat} {f : Nat → Nat} (h : StartAt w b len cap f) : w.ownsRow 0 3 1 (.slice (some ⟨b, 0, none⟩) len cap) len ((List.range len).map fun i => Value.int .i64 (f i : Nat)) := by
  obtain ⟨cur, h1, h2, h3, h4, h5⟩ := h
  refine ⟨by simp, .inr ⟨b, cap, cur, rfl, Nat.zero_le _, h1, h3, h4, by rw [h2, Nat.mul_one], ?_⟩⟩
  apply List.ext_getElem?
  intro j
  rw [Nat.mul_one]
  by_cases hj : j < len
  · rw [List.getElem?_take_of_lt hj, Array.getElem?_toList, h5 j hj]
    simp [hj]
  · rw [List.getElem?_eq_none (by simp; omega), List.getElem?_eq_none (by simp; omega)]
theorem StartAt.of_owns {w : World} {b len cap n : Nat} {f : Nat → Nat} (h : w.ownsRow 0 3 1 (.slice (some ⟨b, 0, none⟩) (len + 1) cap) (len + 1) ((List.range len).map (fun i => Value.int .i64 (f i : Nat)) ++ [.int .i64 (n : Nat)])) : StartAt w b (len + 1) cap (upd f len n) := by
  obtain ⟨_, h⟩ := h
  rcases h with ⟨h, _⟩ | ⟨g, c, cur, e, _, h1, h2, h3, h4, h5⟩
  · cases h
  · simp only [Value.slice.injEq, Option.some.injEq, Addr.mk.injEq, and_true, true_and] at e
    obtain ⟨rfl, rfl⟩ := e
    refine ⟨cur, h1, by rw [h4, Nat.mul_one], h2, h3, fun i hi => ?_⟩
    have := congrArg (fun l : List Value => l[i]?) h5
    simp only [Nat.mul_one] at this
    rw [List.getElem?_take_of_lt hi, Array.getElem?_toList] at this
    rw [this]
    by_cases e : i = len
    · subst e; rw [upd_same]; simp
    · rw [upd_ne _ _ e, List.getElem?_append_left (by simp; omega)]
      simp [show i < len by omega]

theorem RarAt.grown {w w1 : World} {br bR bp bo bq bg bs cap : Nat} {R : RS} (h : RarAt w br bR bp bo bq bg bs cap R) (hk : Kept (· = bs) w w1) {g' cap' : Nat} (hst : StartAt w1 g' (R.len + 1) cap' (upd R.start R.len R.n)) (hg : g' = bs ∨ w.heap.size ≤ g') :
    RarAt (w1.setCell ⟨br, 4, none⟩ (.slice (some ⟨g', 0, none⟩) (R.len + 1) cap')) br bR bp bo bq bg g' cap' { R with len := R.len + 1, start := upd R.start R.len R.n } := by
  obtain ⟨rR, rp, ro, rq, rg, rs, Rp, Ro, Rq, Rg, Rs, po, pq, pg, ps, oq, og, os, qg, qs, gs⟩ := h.apart
  have far : ∀ b, b < w.heap.size → b ≠ bs → b ≠ g' := fun b hb hne => by
    rcases hg with e | e
    · rw [e]; exact hne
    · omega
  have l1 := lt_of_some h.obj
  have l2 := lt_of_some h.rnd
  have l3 := lt_of_some h.pcg
  have l4 := h.order.lt
  have l5 := h.pos.lt
  have l6 := h.group.lt
  have hK := Kept.cell1 (w := w1) ⟨br, 4, none⟩ (.slice (some ⟨g', 0, none⟩) (R.len + 1) cap')
  refine ⟨?_, (h.rnd.keep hk Rs).keep hK rR.symm, (h.pcg.keep hk ps).keep hK rp.symm, h.state, (h.order.keep hk os).keep hK ro.symm, (h.pos.keep hk qs).keep hK rq.symm, (h.group.keep hk gs).keep hK rg.symm, hst.keep hK (far br l1 rs).symm, ?_⟩
  · rw [heap_setCell_same _ _ _ _ _ _ (hk.at h.obj rs)]
    rfl
  · exact ⟨rR, rp, ro, rq, rg, far _ l1 rs, Rp, Ro, Rq, Rg, far _ l2 Rs, po, pq, pg, far _ l3 ps, oq, og, far _ l4 os, qg, far _ l5 qs, far _ l6 gs⟩

/-- What the loads of 'add''s append read. -/
def HeldAp (br bo bs n len cap : Nat) (W : World) : Prop :=
  W.cell? ⟨br, 4, none⟩ = some (.slice (some ⟨bs, 0, none⟩) len cap) ∧ W.cell? ⟨br, 1, none⟩ = some (.slice (some ⟨bo, 0, none⟩) n n)

/-- The state that 'add' has when its first swap is called: grown where i was in the highest group. -/
def growR (R : RS) (g : Nat) : RS := { R with len := if g + 2 = R.len then R.len + 1 else R.len, start := if g + 2 = R.len then upd R.start R.len R.n else R.start }


set_option maxRecDepth 100000 in
set_option maxHeartbeats 2000000 in
theorem add_low (br bR bp bo bq bg bs cap : Nat) (R : RS) (I : Inv R) (hn : R.n < 4611686018427387904) (i g p s1 : Nat) (hi : i < R.n) (eg : R.group i = g) (ep : R.pos i = p) (es1 : R.start (g + 1) = s1) (hnt : g + 2 ≠ R.len) (w : World) (h : RarAt w br bR bp bo bq bg bs cap R) :
    Calls Try.prog 34 #[.pointer (some ⟨br, 0, none⟩), .int .i64 i] w fun e w' => AddPost br bR bp bo bq bg bs R i w e w' := by
  obtain ⟨c0, c1, c2, c3, c4⟩ := h.field
  obtain ⟨in1, in2⟩ := I.inside i hi
  obtain ⟨g1, g2⟩ := I.grp i hi
  have hp := (I.posOrd i hi).1
  have hle := I.le (h := R.group i + 1) (by omega)
  have cg := h.group.cell hi
  have hlen : R.len ≤ 9223372036854775807 := by obtain ⟨_, _, _, h1, h2, _⟩ := h.start; unfold maxLen at h2; omega
  rw [eg] at in1 in2 g1 g2 hle cg
  rw [ep] at in1 in2 hp
  rw [es1] at in2 hle
  have gs1 : (growR R g).start (g + 1) = s1 := by show (if g + 2 = R.len then upd R.start R.len R.n else R.start) (g + 1) = s1; rw [if_neg hnt]; exact es1
  have gl : (growR R g).len = R.len := by show (if g + 2 = R.len then R.len + 1 else R.len) = _; rw [if_neg hnt]
  have hR1 : growR R g = R := by unfold growR; rw [if_neg hnt, if_neg hnt]
  have HH := hide h
  have HI := hide I
  have i1 : (i : Int) < (R.n : Int) := by omega
  have b1 : ((g : Int) == 0) = false := by simp; omega
  have b2 : ((g : Int) + 2 == (R.len : Int)) = false := by simp; omega
  clear h I
  have Hgs := hide (show (growR R g).start (g + 1) = s1 ∧ (growR R g).len = R.len ∧ growR R g = R ∧ R.group i = g ∧ R.pos i = p ∧ R.start (g + 1) = s1 from ⟨gs1, gl, hR1, eg, ep, es1⟩)
  clear gs1 gl hR1 eg ep es1 hnt
  go_enter Try.func34, Try.ntmps34
  go_wp2_with fail
  clear b1 b2 c0 c1 c2 c3 c4 cg
  obtain ⟨gs1, gl, hR1, eg, ep, es1⟩ := unhide Hgs
  refine wp_forget (fun W => ∃ bs1 cap1, RarAt W br bR bp bo bq bg bs1 cap1 (growR R g) ∧ (bs1 = bs ∨ w.heap.size ≤ bs1) ∧ Kept (fun k => k = br ∨ k = bp ∨ k = bo ∨ k = bq ∨ k = bg ∨ k = bs) w W) ⟨bs, cap, by rw [hR1]; exact unhide HH, .inl rfl, Kept.refl _ _⟩ ?_
  rintro W ⟨bs1, cap1, hRar, hbs, hKW⟩
  clear hR1 hlen
  -- THE REST, from the swap on: the world is W, the order R1 := growR R g, in block bs1
  obtain ⟨c0, c1, c2, c3, c4⟩ := hRar.field
  have cp := hRar.pos.cell (i := i) hi
  have cs1 := hRar.start.cell (i := g + 1) (show g + 1 < (growR R g).len by omega)
  rw [show (growR R g).pos i = p from ep] at cp
  rw [gs1] at cs1
  have hln : (growR R g).len ≤ 9223372036854775807 := by obtain ⟨_, _, _, h1, h2, _⟩ := hRar.start; unfold maxLen at h2; omega
  have HRar := hide hRar
  clear hRar
  rw [show (growR R g).n = R.n from rfl] at c1 c2 c3
  have i2 : (g : Int) + 1 < ((growR R g).len : Int) := by omega
  have i5 : (0 : Int) ≤ (g : Int) + 1 := by omega
  have e2 : IntKind.i64.wrap ((g : Int) + 1) = (g : Int) + 1 := by rw [IntKind.wrap_i64]; omega
  have e3 : IntKind.i64.wrap ((s1 : Int) - 1) = ((s1 - 1 : Nat) : Int) := by rw [IntKind.wrap_i64]; omega
  have e4 : ((g : Int) + 1).toNat = g + 1 := by omega
  generalize hL : (growR R g).len = L at *
  have HL := hide hL
  clear hL gs1 gl eg ep es1
  refine region_but (HeldSw br bq bs1 R.n L cap1 i p g s1) 17 (by kernel_rfl) ?_
  have hHeld : HeldSw br bq bs1 R.n L cap1 i p g s1 W.drew := ⟨c2, cp, c4, cs1⟩
  refine But.take (i := 0) (f := 40) (v := ?_) rfl (by kernel_rfl) (by kernel_rfl) (by kernel_rfl) (by kernel_rfl) (fun _ _ _ h => h) (Or.inl ⟨by rfl, ?_⟩) hHeld ?_
  rotate_left
  · (intro w hSw; obtain ⟨q1, q2, q3, q4⟩ := hSw; go_simp; first | done | with_reducible rfl)
  simp only [Act.put, List.getElem_toArray, List.getElem_cons_zero, List.getElem_cons_succ, List.setIfInBounds_toArray, List.set_cons_zero, List.set_cons_succ]
  refine But.take (i := 1) (f := 40) (v := ?_) rfl (by kernel_rfl) (by kernel_rfl) (by kernel_rfl) (by kernel_rfl) (fun _ _ _ h => h) (Or.inl ⟨by rfl, ?_⟩) hHeld ?_
  rotate_left
  · (intro w hSw; obtain ⟨q1, q2, q3, q4⟩ := hSw; go_simp; first | done | with_reducible rfl)
  simp only [Act.put, List.getElem_toArray, List.getElem_cons_zero, List.getElem_cons_succ, List.setIfInBounds_toArray, List.set_cons_zero, List.set_cons_succ]
  refine But.take (i := 2) (f := 40) (v := ?_) rfl (by kernel_rfl) (by kernel_rfl) (by kernel_rfl) (by kernel_rfl) (fun _ _ _ h => h) (Or.inl ⟨by rfl, ?_⟩) hHeld ?_
  rotate_left
  · (intro w hSw; obtain ⟨q1, q2, q3, q4⟩ := hSw; go_simp; first | done | with_reducible rfl)
  simp only [Act.put, List.getElem_toArray, List.getElem_cons_zero, List.getElem_cons_succ, List.setIfInBounds_toArray, List.set_cons_zero, List.set_cons_succ]
  refine But.take (i := 3) (f := 40) (v := ?_) rfl (by kernel_rfl) (by kernel_rfl) (by kernel_rfl) (by kernel_rfl) (fun _ _ _ h => h) (Or.inl ⟨by rfl, ?_⟩) hHeld ?_
  rotate_left
  · (intro w hSw; obtain ⟨q1, q2, q3, q4⟩ := hSw; go_simp; first | done | with_reducible rfl)
  simp only [Act.put, List.getElem_toArray, List.getElem_cons_zero, List.getElem_cons_succ, List.setIfInBounds_toArray, List.set_cons_zero, List.set_cons_succ]
  refine But.take (i := 4) (f := 40) (v := ?_) rfl (by kernel_rfl) (by kernel_rfl) (by kernel_rfl) (by kernel_rfl) (fun _ _ _ h => h) (Or.inl ⟨by rfl, ?_⟩) hHeld ?_
  rotate_left
  · (intro w hSw; obtain ⟨q1, q2, q3, q4⟩ := hSw; go_simp; first | done | with_reducible rfl)
  simp only [Act.put, List.getElem_toArray, List.getElem_cons_zero, List.getElem_cons_succ, List.setIfInBounds_toArray, List.set_cons_zero, List.set_cons_succ]
  refine But.take (i := 5) (f := 40) (v := ?_) rfl (by kernel_rfl) (by kernel_rfl) (by kernel_rfl) (by kernel_rfl) (fun _ _ _ h => h) (Or.inl ⟨by rfl, ?_⟩) hHeld ?_
  rotate_left
  · (intro w hSw; obtain ⟨q1, q2, q3, q4⟩ := hSw; go_simp; first | done | with_reducible rfl)
  simp only [Act.put, List.getElem_toArray, List.getElem_cons_zero, List.getElem_cons_succ, List.setIfInBounds_toArray, List.set_cons_zero, List.set_cons_succ]
  refine But.take (i := 6) (f := 40) (v := ?_) rfl (by kernel_rfl) (by kernel_rfl) (by kernel_rfl) (by kernel_rfl) (fun _ _ _ h => h) (Or.inl ⟨by rfl, ?_⟩) hHeld ?_
  rotate_left
  · (intro w hSw; obtain ⟨q1, q2, q3, q4⟩ := hSw; go_simp; first | done | with_reducible rfl)
  simp only [Act.put, List.getElem_toArray, List.getElem_cons_zero, List.getElem_cons_succ, List.setIfInBounds_toArray, List.set_cons_zero, List.set_cons_succ]
  refine But.take (i := 7) (f := 40) (v := ?_) rfl (by kernel_rfl) (by kernel_rfl) (by kernel_rfl) (by kernel_rfl) (fun _ _ _ h => h) (Or.inl ⟨by rfl, ?_⟩) hHeld ?_
  rotate_left
  · (intro w hSw; obtain ⟨q1, q2, q3, q4⟩ := hSw; go_simp; first | done | with_reducible rfl)
  simp only [Act.put, List.getElem_toArray, List.getElem_cons_zero, List.getElem_cons_succ, List.setIfInBounds_toArray, List.set_cons_zero, List.set_cons_succ]
  refine But.take (i := 8) (f := 40) (v := ?_) rfl (by kernel_rfl) (by kernel_rfl) (by kernel_rfl) (by kernel_rfl) (fun _ _ _ h => h) (Or.inl ⟨by rfl, ?_⟩) hHeld ?_
  rotate_left
  · (intro w hSw; obtain ⟨q1, q2, q3, q4⟩ := hSw; go_simp; first | done | with_reducible rfl)
  simp only [Act.put, List.getElem_toArray, List.getElem_cons_zero, List.getElem_cons_succ, List.setIfInBounds_toArray, List.set_cons_zero, List.set_cons_succ]
  refine But.take (i := 9) (f := 40) (v := ?_) rfl (by kernel_rfl) (by kernel_rfl) (by kernel_rfl) (by kernel_rfl) (fun _ _ _ h => h) (Or.inl ⟨by rfl, ?_⟩) hHeld ?_
  rotate_left
  · (intro w hSw; obtain ⟨q1, q2, q3, q4⟩ := hSw; go_simp; first | done | with_reducible rfl)
  simp only [Act.put, List.getElem_toArray, List.getElem_cons_zero, List.getElem_cons_succ, List.setIfInBounds_toArray, List.set_cons_zero, List.set_cons_succ]
  refine But.take (i := 10) (f := 40) (v := ?_) rfl (by kernel_rfl) (by kernel_rfl) (by kernel_rfl) (by kernel_rfl) (fun _ _ _ h => h) (Or.inl ⟨by rfl, ?_⟩) hHeld ?_
  rotate_left
  · (intro w hSw; obtain ⟨q1, q2, q3, q4⟩ := hSw; go_simp; first | done | with_reducible rfl)
  simp only [Act.put, List.getElem_toArray, List.getElem_cons_zero, List.getElem_cons_succ, List.setIfInBounds_toArray, List.set_cons_zero, List.set_cons_succ]
  refine But.take (i := 11) (f := 40) (v := ?_) rfl (by kernel_rfl) (by kernel_rfl) (by kernel_rfl) (by kernel_rfl) (fun _ _ _ h => h) (Or.inl ⟨by rfl, ?_⟩) hHeld ?_
  rotate_left
  · (intro w hSw; obtain ⟨q1, q2, q3, q4⟩ := hSw; go_simp; first | done | with_reducible rfl)
  simp only [Act.put, List.getElem_toArray, List.getElem_cons_zero, List.getElem_cons_succ, List.setIfInBounds_toArray, List.set_cons_zero, List.set_cons_succ]
  refine But.take (i := 12) (f := 40) (v := ?_) rfl (by kernel_rfl) (by kernel_rfl) (by kernel_rfl) (by kernel_rfl) (fun _ _ _ h => h) (Or.inl ⟨by rfl, ?_⟩) hHeld ?_
  rotate_left
  · (intro w hSw; obtain ⟨q1, q2, q3, q4⟩ := hSw; go_simp; first | done | with_reducible rfl)
  simp only [Act.put, List.getElem_toArray, List.getElem_cons_zero, List.getElem_cons_succ, List.setIfInBounds_toArray, List.set_cons_zero, List.set_cons_succ]
  refine But.take (i := 13) (f := 40) (v := ?_) rfl (by kernel_rfl) (by kernel_rfl) (by kernel_rfl) (by kernel_rfl) (fun _ _ _ h => h) (Or.inl ⟨by rfl, ?_⟩) hHeld ?_
  rotate_left
  · (intro w hSw; obtain ⟨q1, q2, q3, q4⟩ := hSw; go_simp; first | done | with_reducible rfl)
  simp only [Act.put, List.getElem_toArray, List.getElem_cons_zero, List.getElem_cons_succ, List.setIfInBounds_toArray, List.set_cons_zero, List.set_cons_succ]
  refine But.take (i := 14) (f := 40) (v := ?_) rfl (by kernel_rfl) (by kernel_rfl) (by kernel_rfl) (by kernel_rfl) (fun _ _ _ h => h) (Or.inl ⟨by rfl, ?_⟩) hHeld ?_
  rotate_left
  · (intro w hSw; obtain ⟨q1, q2, q3, q4⟩ := hSw; go_simp; first | done | with_reducible rfl)
  simp only [Act.put, List.getElem_toArray, List.getElem_cons_zero, List.getElem_cons_succ, List.setIfInBounds_toArray, List.set_cons_zero, List.set_cons_succ]
  refine But.take (i := 15) (f := 40) (v := ?_) rfl (by kernel_rfl) (by kernel_rfl) (by kernel_rfl) (by kernel_rfl) (fun _ _ _ h => h) (Or.inl ⟨by rfl, ?_⟩) hHeld ?_
  rotate_left
  · (intro w hSw; obtain ⟨q1, q2, q3, q4⟩ := hSw; go_simp; first | done | with_reducible rfl)
  simp only [Act.put, List.getElem_toArray, List.getElem_cons_zero, List.getElem_cons_succ, List.setIfInBounds_toArray, List.set_cons_zero, List.set_cons_succ]
  refine But.take (i := 16) (f := 40) (v := ?_) rfl (by kernel_rfl) (by kernel_rfl) (by kernel_rfl) (by kernel_rfl) (fun _ _ _ h => h) (Or.inl ⟨by rfl, ?_⟩) hHeld ?_
  rotate_left
  · (intro w hSw; obtain ⟨q1, q2, q3, q4⟩ := hSw; go_simp; first | done | with_reducible rfl)
  simp only [Act.put, List.getElem_toArray, List.getElem_cons_zero, List.getElem_cons_succ, List.setIfInBounds_toArray, List.set_cons_zero, List.set_cons_succ]
  refine But.one (i := 17) rfl (by kernel_rfl) (fun K hK => ?_)
  go_simp
  have hox : R.order p < R.n := ((unhide HI).ordPos p hp).1
  have hoy : R.order (s1 - 1) < R.n := ((unhide HI).ordPos (s1 - 1) (by omega)).1
  refine (swap_any br bR bp bo bq bg bs1 cap1 (growR R g) p (s1 - 1) hp (show s1 - 1 < R.n by omega) hox hoy W.drew ((unhide HRar).keep ((Kept.refl (fun _ => False) _).drew) ⟨id, id, id, id, id, id, id⟩)).mono ?_
  rintro e w3 ⟨rfl, hRar3, hK3⟩
  refine hK.out _ _ (.inl rfl) (But.done (by kernel_rfl) ?_)
  clear hK K hHeld c0 c1 c2 c3 c4 cp cs1
  have HK3 := hide (hKW.trans (((Kept.refl (fun k => k = bo ∨ k = bq) W).drew).trans hK3 (fun _ _ h => h)) (fun k hk h => by (rcases h with h | h; exact .inr (.inr (.inl h)); exact .inr (.inr (.inr (.inl h))))))
  clear hKW hK3
  -- r.start[g+1]--, r.group[i] = g + 1
  obtain ⟨gs1, gl, hR1, eg, ep, es1⟩ := unhide Hgs
  obtain ⟨c0, c1, c2, c3, c4⟩ := hRar3.field
  have cg := hRar3.group.cell (i := i) hi
  have cs1 := hRar3.start.cell (i := g + 1) (show g + 1 < (growR R g).len by rw [unhide HL]; omega)
  rw [show (swapR (growR R g) p (s1 - 1)).start (g + 1) = s1 from gs1] at cs1
  rw [show (swapR (growR R g) p (s1 - 1)).len = L from unhide HL] at c4
  rw [show (swapR (growR R g) p (s1 - 1)).n = R.n from rfl] at c1 c2 c3
  have fs := hRar3.start.free (g + 1)
  have HRar3 := hide hRar3
  clear hRar3 gs1 gl hR1 eg ep es1
  go_upto_region 6 with fail
  refine wp_forget (fun W4 => RarAt W4 br bR bp bo bq bg bs1 cap1 { swapR (growR R g) p (s1 - 1) with start := upd (growR R g).start (g + 1) (s1 - 1) } ∧ Kept (fun k => k = br ∨ k = bp ∨ k = bo ∨ k = bq ∨ k = bg ∨ k = bs) w W4) ⟨?_, ?_⟩ ?_
  · exact (unhide HRar3).setStart (g + 1) (s1 - 1)
  · exact (unhide HK3).setCell (fun h => (hbs.elim (fun e => .inr (.inr (.inr (.inr (.inr e))))) (fun e => absurd h (Nat.not_lt.2 e)))) _
  clear c0 c1 c2 c3 c4 cg cs1 fs HRar3 HK3
  rintro W4 ⟨hRar4, hK4⟩
  have c3 : W4.cell? ⟨br, 3, none⟩ = some (.slice (some ⟨bg, 0, none⟩) R.n R.n) := hRar4.field.2.2.2.1
  have cg : W4.cell? ⟨bg, i, none⟩ = some (.int .i64 (R.group i : Nat)) := hRar4.group.cell (i := i) hi
  have fg := hRar4.group.free i
  have HRar4 := hide hRar4
  have HK4 := hide hK4
  clear hRar4 hK4
  go_upto_region 7 with fail
  refine wp_forget (fun W5 => RarAt W5 br bR bp bo bq bg bs1 cap1 (midR R i R.S) ∧ Kept (fun k => k = br ∨ k = bp ∨ k = bo ∨ k = bq ∨ k = bg ∨ k = bs) w W5) ⟨?_, ?_⟩ ?_
  · obtain ⟨gs1, gl, hR1, eg, ep, es1⟩ := unhide Hgs
    have := (unhide HRar4).setGroup i (g + 1)
    rw [← mid_eq R (growR R g) i g eg rfl (by rw [gs1, es1]), ep, es1]
    exact this
  · exact (unhide HK4).setCell (fun _ => .inr (.inr (.inr (.inr (.inl rfl))))) _
  clear c3 cg fg HRar4 HK4
  rintro W5 ⟨hRar5, hK5⟩
  obtain ⟨gs1, gl, hR1, eg, ep, es1⟩ := unhide Hgs
  have J := mid_inv (unhide HI) (i := i) hi R.S
  have hsh := shuffle_walk br bR bp bo bq bg bs1 cap1 (midR R i R.S) J hn i (g + 1) _ _ _ hi (by rw [mid_group, upd_same, eg]) rfl rfl rfl W5 hRar5
  have Hsh := hide hsh
  have HK5 := hide hK5
  clear hsh hK5 hRar5 J gs1 gl hR1 eg ep es1
  go_wp2_with fail
  refine (unhide Hsh).mono ?_
  rintro e w6 ⟨rfl, v, S', hR6, hRar6, hK6⟩
  go_wp2_with fail
  go_end0
  obtain ⟨gs1, gl, hR1, eg, ep, es1⟩ := unhide Hgs
  refine ⟨rfl, v, S', bs1, cap1, ?_, ?_, hbs, ?_⟩
  · unfold room; rw [eg]; exact hR6
  · rw [addR_mid, eg]; exact hRar6
  · exact (unhide HK5).trans hK6 (fun k hk h => by (rcases h with h | h | h; exact .inr (.inl h); exact .inr (.inr (.inl h)); exact .inr (.inr (.inr (.inl h)))))

set_option maxRecDepth 100000 in
set_option maxHeartbeats 2000000 in
theorem add_top (br bR bp bo bq bg bs cap : Nat) (R : RS) (I : Inv R) (hn : R.n < 4611686018427387904) (hlen : R.len < 1099511627776) (i g p s1 : Nat) (hi : i < R.n) (eg : R.group i = g) (ep : R.pos i = p) (es1 : R.start (g + 1) = s1) (hnt : g + 2 = R.len) (w : World) (h : RarAt w br bR bp bo bq bg bs cap R) :
    Calls Try.prog 34 #[.pointer (some ⟨br, 0, none⟩), .int .i64 i] w fun e w' => AddPost br bR bp bo bq bg bs R i w e w' := by
  obtain ⟨c0, c1, c2, c3, c4⟩ := h.field
  obtain ⟨in1, in2⟩ := I.inside i hi
  obtain ⟨g1, g2⟩ := I.grp i hi
  have hp := (I.posOrd i hi).1
  have hle := I.le (h := R.group i + 1) (by omega)
  have cg := h.group.cell hi
  rw [eg] at in1 in2 g1 g2 hle cg
  rw [ep] at in1 in2 hp
  rw [es1] at in2 hle
  have gs1 : (growR R g).start (g + 1) = s1 := by show (if g + 2 = R.len then upd R.start R.len R.n else R.start) (g + 1) = s1; rw [if_pos hnt, upd_ne _ _ (by omega)]; exact es1
  have gl : (growR R g).len = R.len + 1 := by show (if g + 2 = R.len then R.len + 1 else R.len) = _; rw [if_pos hnt]
  have hR1 : growR R g = { R with len := R.len + 1, start := upd R.start R.len R.n } := by unfold growR; rw [if_pos hnt, if_pos hnt]
  have HH := hide h
  have HI := hide I
  have i1 : (i : Int) < (R.n : Int) := by omega
  have b1 : ((g : Int) == 0) = false := by simp; omega
  have b2 : ((g : Int) + 2 == (R.len : Int)) = true := by simp; omega
  have hbr : br < w.heap.size := lt_of_some h.obj
  have hbrs : br ≠ bs := h.apart.2.2.2.2.2.1
  have fr4 : w.frozen? ⟨br, 4, none⟩ = false := frozen_of_row _ _ _ _ _ h.obj
  have How := hide h.start.owns
  clear h I
  have Hgs := hide (show (growR R g).start (g + 1) = s1 ∧ (growR R g).len = R.len + 1 ∧ growR R g = { R with len := R.len + 1, start := upd R.start R.len R.n } ∧ R.group i = g ∧ R.pos i = p ∧ R.start (g + 1) = s1 from ⟨gs1, gl, hR1, eg, ep, es1⟩)
  have Hnt := hide hnt
  clear gs1 gl hR1 eg ep es1 hnt
  go_enter Try.func34, Try.ntmps34
  go_wp2_with fail
  clear b1 b2
  refine region_but (HeldAp br bo bs R.n R.len cap) 14 (by kernel_rfl) ?_
  have hHeld : HeldAp br bo bs R.n R.len cap w.drew := ⟨c4, c1⟩
  refine But.take (i := 0) (f := 40) (v := ?_) rfl (by kernel_rfl) (by kernel_rfl) (by kernel_rfl) (by kernel_rfl) (fun _ _ _ h => h) (Or.inl ⟨by rfl, ?_⟩) hHeld ?_
  rotate_left
  · (intro w hSw; obtain ⟨q1, q2⟩ := hSw; go_simp; first | done | with_reducible rfl)
  simp only [Act.put, List.getElem_toArray, List.getElem_cons_zero, List.getElem_cons_succ, List.setIfInBounds_toArray, List.set_cons_zero, List.set_cons_succ]
  refine But.take (i := 1) (f := 40) (v := ?_) rfl (by kernel_rfl) (by kernel_rfl) (by kernel_rfl) (by kernel_rfl) (fun _ _ _ h => h) (Or.inl ⟨by rfl, ?_⟩) hHeld ?_
  rotate_left
  · (intro w hSw; obtain ⟨q1, q2⟩ := hSw; go_simp; first | done | with_reducible rfl)
  simp only [Act.put, List.getElem_toArray, List.getElem_cons_zero, List.getElem_cons_succ, List.setIfInBounds_toArray, List.set_cons_zero, List.set_cons_succ]
  refine But.take (i := 2) (f := 40) (v := ?_) rfl (by kernel_rfl) (by kernel_rfl) (by kernel_rfl) (by kernel_rfl) (fun _ _ _ h => h) (Or.inl ⟨by rfl, ?_⟩) hHeld ?_
  rotate_left
  · (intro w hSw; obtain ⟨q1, q2⟩ := hSw; go_simp; first | done | with_reducible rfl)
  simp only [Act.put, List.getElem_toArray, List.getElem_cons_zero, List.getElem_cons_succ, List.setIfInBounds_toArray, List.set_cons_zero, List.set_cons_succ]
  refine But.take (i := 3) (f := 40) (v := ?_) rfl (by kernel_rfl) (by kernel_rfl) (by kernel_rfl) (by kernel_rfl) (fun _ _ _ h => h) (Or.inl ⟨by rfl, ?_⟩) hHeld ?_
  rotate_left
  · (intro w hSw; obtain ⟨q1, q2⟩ := hSw; go_simp; first | done | with_reducible rfl)
  simp only [Act.put, List.getElem_toArray, List.getElem_cons_zero, List.getElem_cons_succ, List.setIfInBounds_toArray, List.set_cons_zero, List.set_cons_succ]
  refine But.take (i := 4) (f := 40) (v := ?_) rfl (by kernel_rfl) (by kernel_rfl) (by kernel_rfl) (by kernel_rfl) (fun _ _ _ h => h) (Or.inl ⟨by rfl, ?_⟩) hHeld ?_
  rotate_left
  · (intro w hSw; obtain ⟨q1, q2⟩ := hSw; go_simp; first | done | with_reducible rfl)
  simp only [Act.put, List.getElem_toArray, List.getElem_cons_zero, List.getElem_cons_succ, List.setIfInBounds_toArray, List.set_cons_zero, List.set_cons_succ]
  refine But.take (i := 5) (f := 40) (v := ?_) rfl (by kernel_rfl) (by kernel_rfl) (by kernel_rfl) (by kernel_rfl) (fun _ _ _ h => h) (Or.inl ⟨by rfl, ?_⟩) hHeld ?_
  rotate_left
  · (intro w hSw; obtain ⟨q1, q2⟩ := hSw; go_simp; first | done | with_reducible rfl)
  simp only [Act.put, List.getElem_toArray, List.getElem_cons_zero, List.getElem_cons_succ, List.setIfInBounds_toArray, List.set_cons_zero, List.set_cons_succ]
  refine But.take (i := 6) (f := 40) (v := ?_) rfl (by kernel_rfl) (by kernel_rfl) (by kernel_rfl) (by kernel_rfl) (fun _ _ _ h => h) (Or.inl ⟨by rfl, ?_⟩) hHeld ?_
  rotate_left
  · (intro w hSw; obtain ⟨q1, q2⟩ := hSw; go_simp; first | done | with_reducible rfl)
  simp only [Act.put, List.getElem_toArray, List.getElem_cons_zero, List.getElem_cons_succ, List.setIfInBounds_toArray, List.set_cons_zero, List.set_cons_succ]
  refine But.take (i := 7) (f := 40) (v := ?_) rfl (by kernel_rfl) (by kernel_rfl) (by kernel_rfl) (by kernel_rfl) (fun _ _ _ h => h) (Or.inl ⟨by rfl, ?_⟩) hHeld ?_
  rotate_left
  · (intro w hSw; obtain ⟨q1, q2⟩ := hSw; go_simp; first | done | with_reducible rfl)
  simp only [Act.put, List.getElem_toArray, List.getElem_cons_zero, List.getElem_cons_succ, List.setIfInBounds_toArray, List.set_cons_zero, List.set_cons_succ]
  refine But.take (i := 8) (f := 40) (v := ?_) rfl (by kernel_rfl) (by kernel_rfl) (by kernel_rfl) (by kernel_rfl) (fun _ _ _ h => h) (Or.inl ⟨by rfl, ?_⟩) hHeld ?_
  rotate_left
  · (intro w hSw; obtain ⟨q1, q2⟩ := hSw; go_simp; first | done | with_reducible rfl)
  simp only [Act.put, List.getElem_toArray, List.getElem_cons_zero, List.getElem_cons_succ, List.setIfInBounds_toArray, List.set_cons_zero, List.set_cons_succ]
  refine But.take (i := 9) (f := 40) (v := ?_) rfl (by kernel_rfl) (by kernel_rfl) (by kernel_rfl) (by kernel_rfl) (fun _ _ _ h => h) (Or.inl ⟨by rfl, ?_⟩) hHeld ?_
  rotate_left
  · (intro w hSw; obtain ⟨q1, q2⟩ := hSw; go_simp; first | done | with_reducible rfl)
  simp only [Act.put, List.getElem_toArray, List.getElem_cons_zero, List.getElem_cons_succ, List.setIfInBounds_toArray, List.set_cons_zero, List.set_cons_succ]
  refine But.one (i := 10) rfl (by kernel_rfl) (fun K hK => ?_)
  go_simp
  have hHeld1 : HeldAp br bo bs R.n R.len cap (w.alloc (.cells #[.int .i64 (R.n : Nat)] 3)).drew := ⟨by go_simp, by go_simp⟩
  refine hK.out _ _ (.inr hHeld1) ?_
  clear hK K hHeld
  obtain ⟨ti, hti, hzz⟩ := Option.map_eq_some_iff.1 Try.info3
  simp only [Prod.mk.injEq] at hzz
  obtain ⟨hz0, hz1, hz2⟩ := hzz
  refine But.one (i := 11) rfl (by kernel_rfl) (fun K hK => ?_)
  refine step_append_lies _ (by rfl) _ _ _ (by rfl) 0 3 ti (.int .i64 0) 1 8 Try.underlying23 hti hz0 hz1 hz2 rfl (by decide) (.slice (some ⟨bs, 0, none⟩) R.len cap) R.len ((List.range R.len).map fun i => Value.int .i64 (R.start i : Nat)) (by rfl) ?_ ⟨w.heap.size, 0, none⟩ 1 1 [.int .i64 (R.n : Nat)] (by rfl) rfl ?_ ?_ (by decide) ?_ ?_ (Nat.zero_le _) (w.heap.size + 1) (by simp) ?_
  · exact ((unhide HH).start.keep (((Kept.refl (fun _ => False) w).alloc _).drew) id).owns
  · exact World.news_of_block (cs := #[.int .i64 (R.n : Nat)]) (t := 3) (fr := (0, 0)) (heap_at w _ _ rfl)
  · intro u hu
    simp only [List.mem_singleton] at hu
    rw [hu]; rfl
  · unfold maxLen; omega
  · omega
  intro g' cap' w1 hown1 hgrow hat hlt1
  have hbs0 := (unhide HH).start.lt
  have hKw : Kept (· = bs) w w1 := ⟨hgrow.os, hgrow.tape, hgrow.output, Nat.le_trans (by simp) hgrow.size, fun k hk hne => by
    rw [hgrow.block k (by simp; omega) (fun e => hne (Option.some.inj e))]
    exact Below.heap_alloc w _ k hk⟩
  have hg' : g' = bs ∨ w.heap.size ≤ g' := by
    rcases hat with e | e
    · exact .inl (Option.some.inj e).symm
    · exact .inr (by omega)
  have hx4 : w1.heap[br]? = w.heap[br]? := hKw.block br hbr hbrs
  have hHeld2 : HeldAp br bo bs R.n R.len cap w1 := ⟨by rw [World.cell?_of_block (w := w) hx4]; exact c4, by rw [World.cell?_of_block (w := w) hx4]; exact c1⟩
  have d4 : w1.cell? ⟨br, 4, none⟩ = some (.slice (some ⟨bs, 0, none⟩) R.len cap) := hHeld2.1
  have f4 : w1.frozen? ⟨br, 4, none⟩ = false := by rw [World.frozen?_of_block (w := w) hx4]; exact fr4
  have HG := hide (show StartAt w1 g' (R.len + 1) cap' (upd R.start R.len R.n) ∧ Kept (· = bs) w w1 ∧ (g' = bs ∨ w.heap.size ≤ g') from ⟨StartAt.of_owns hown1, hKw, hg'⟩)
  clear hgrow hat hown1 hKw hg' hx4 hlt1 hHeld1 fr4
  refine hK.out _ _ (.inr hHeld2) ?_
  clear hK K hti hz0 hz1 hz2
  simp only [Act.put, List.getElem_toArray, List.getElem_cons_zero, List.getElem_cons_succ, List.setIfInBounds_toArray, List.set_cons_zero, List.set_cons_succ]
  refine But.take (i := 12) (f := 40) (v := ?_) rfl (by kernel_rfl) (by kernel_rfl) (by kernel_rfl) (by kernel_rfl) (fun _ _ _ h => h) (Or.inl ⟨by rfl, ?_⟩) hHeld2 ?_
  rotate_left
  · (intro w hSw; obtain ⟨q1, q2⟩ := hSw; go_simp; first | done | with_reducible rfl)
  simp only [Act.put, List.getElem_toArray, List.getElem_cons_zero, List.getElem_cons_succ, List.setIfInBounds_toArray, List.set_cons_zero, List.set_cons_succ]
  refine But.take (i := 13) (f := 40) (v := ?_) rfl (by kernel_rfl) (by kernel_rfl) (by kernel_rfl) (by kernel_rfl) (fun _ _ _ h => h) (Or.inl ⟨by rfl, ?_⟩) hHeld2 ?_
  rotate_left
  · (intro w hSw; obtain ⟨q1, q2⟩ := hSw; go_simp; first | done | with_reducible rfl)
  simp only [Act.put, List.getElem_toArray, List.getElem_cons_zero, List.getElem_cons_succ, List.setIfInBounds_toArray, List.set_cons_zero, List.set_cons_succ]
  refine But.one (i := 14) rfl (by kernel_rfl) (fun K hK => ?_)
  go_simp
  refine hK.out _ _ (.inl rfl) (But.done (by kernel_rfl) ?_)
  clear hK K hHeld2 c0 c1 c2 c3 c4 cg d4 f4
  go_wp2_with fail
  obtain ⟨gs1, gl, hR1, eg, ep, es1⟩ := unhide Hgs
  refine wp_forget (fun W => ∃ bs1 cap1, RarAt W br bR bp bo bq bg bs1 cap1 (growR R g) ∧ (bs1 = bs ∨ w.heap.size ≤ bs1) ∧ Kept (fun k => k = br ∨ k = bp ∨ k = bo ∨ k = bq ∨ k = bg ∨ k = bs) w W) ⟨g', cap', ?_, (unhide HG).2.2, ?_⟩ ?_
  · rw [hR1]
    exact (unhide HH).grown (unhide HG).2.1 (unhide HG).1 (unhide HG).2.2
  · exact ((unhide HG).2.1.mono (fun _ _ h => .inr (.inr (.inr (.inr (.inr h)))))).setCell (fun _ => .inl rfl) _
  rintro W ⟨bs1, cap1, hRar, hbs, hKW⟩
  clear hR1 HG hlen hbs0
  -- THE REST, from the swap on: the world is W, the order R1 := growR R g, in block bs1
  obtain ⟨c0, c1, c2, c3, c4⟩ := hRar.field
  have cp := hRar.pos.cell (i := i) hi
  have cs1 := hRar.start.cell (i := g + 1) (show g + 1 < (growR R g).len by omega)
  rw [show (growR R g).pos i = p from ep] at cp
  rw [gs1] at cs1
  have hln : (growR R g).len ≤ 9223372036854775807 := by obtain ⟨_, _, _, h1, h2, _⟩ := hRar.start; unfold maxLen at h2; omega
  have HRar := hide hRar
  clear hRar
  rw [show (growR R g).n = R.n from rfl] at c1 c2 c3
  have i2 : (g : Int) + 1 < ((growR R g).len : Int) := by omega
  have i5 : (0 : Int) ≤ (g : Int) + 1 := by omega
  have e2 : IntKind.i64.wrap ((g : Int) + 1) = (g : Int) + 1 := by rw [IntKind.wrap_i64]; omega
  have e3 : IntKind.i64.wrap ((s1 : Int) - 1) = ((s1 - 1 : Nat) : Int) := by rw [IntKind.wrap_i64]; omega
  have e4 : ((g : Int) + 1).toNat = g + 1 := by omega
  generalize hL : (growR R g).len = L at *
  have HL := hide hL
  clear hL gs1 gl eg ep es1
  refine region_but (HeldSw br bq bs1 R.n L cap1 i p g s1) 17 (by kernel_rfl) ?_
  have hHeld : HeldSw br bq bs1 R.n L cap1 i p g s1 W.drew := ⟨c2, cp, c4, cs1⟩
  refine But.take (i := 0) (f := 40) (v := ?_) rfl (by kernel_rfl) (by kernel_rfl) (by kernel_rfl) (by kernel_rfl) (fun _ _ _ h => h) (Or.inl ⟨by rfl, ?_⟩) hHeld ?_
  rotate_left
  · (intro w hSw; obtain ⟨q1, q2, q3, q4⟩ := hSw; go_simp; first | done | with_reducible rfl)
  simp only [Act.put, List.getElem_toArray, List.getElem_cons_zero, List.getElem_cons_succ, List.setIfInBounds_toArray, List.set_cons_zero, List.set_cons_succ]
  refine But.take (i := 1) (f := 40) (v := ?_) rfl (by kernel_rfl) (by kernel_rfl) (by kernel_rfl) (by kernel_rfl) (fun _ _ _ h => h) (Or.inl ⟨by rfl, ?_⟩) hHeld ?_
  rotate_left
  · (intro w hSw; obtain ⟨q1, q2, q3, q4⟩ := hSw; go_simp; first | done | with_reducible rfl)
  simp only [Act.put, List.getElem_toArray, List.getElem_cons_zero, List.getElem_cons_succ, List.setIfInBounds_toArray, List.set_cons_zero, List.set_cons_succ]
  refine But.take (i := 2) (f := 40) (v := ?_) rfl (by kernel_rfl) (by kernel_rfl) (by kernel_rfl) (by kernel_rfl) (fun _ _ _ h => h) (Or.inl ⟨by rfl, ?_⟩) hHeld ?_
  rotate_left
  · (intro w hSw; obtain ⟨q1, q2, q3, q4⟩ := hSw; go_simp; first | done | with_reducible rfl)
  simp only [Act.put, List.getElem_toArray, List.getElem_cons_zero, List.getElem_cons_succ, List.setIfInBounds_toArray, List.set_cons_zero, List.set_cons_succ]
  refine But.take (i := 3) (f := 40) (v := ?_) rfl (by kernel_rfl) (by kernel_rfl) (by kernel_rfl) (by kernel_rfl) (fun _ _ _ h => h) (Or.inl ⟨by rfl, ?_⟩) hHeld ?_
  rotate_left
  · (intro w hSw; obtain ⟨q1, q2, q3, q4⟩ := hSw; go_simp; first | done | with_reducible rfl)
  simp only [Act.put, List.getElem_toArray, List.getElem_cons_zero, List.getElem_cons_succ, List.setIfInBounds_toArray, List.set_cons_zero, List.set_cons_succ]
  refine But.take (i := 4) (f := 40) (v := ?_) rfl (by kernel_rfl) (by kernel_rfl) (by kernel_rfl) (by kernel_rfl) (fun _ _ _ h => h) (Or.inl ⟨by rfl, ?_⟩) hHeld ?_
  rotate_left
  · (intro w hSw; obtain ⟨q1, q2, q3, q4⟩ := hSw; go_simp; first | done | with_reducible rfl)
  simp only [Act.put, List.getElem_toArray, List.getElem_cons_zero, List.getElem_cons_succ, List.setIfInBounds_toArray, List.set_cons_zero, List.set_cons_succ]
  refine But.take (i := 5) (f := 40) (v := ?_) rfl (by kernel_rfl) (by kernel_rfl) (by kernel_rfl) (by kernel_rfl) (fun _ _ _ h => h) (Or.inl ⟨by rfl, ?_⟩) hHeld ?_
  rotate_left
  · (intro w hSw; obtain ⟨q1, q2, q3, q4⟩ := hSw; go_simp; first | done | with_reducible rfl)
  simp only [Act.put, List.getElem_toArray, List.getElem_cons_zero, List.getElem_cons_succ, List.setIfInBounds_toArray, List.set_cons_zero, List.set_cons_succ]
  refine But.take (i := 6) (f := 40) (v := ?_) rfl (by kernel_rfl) (by kernel_rfl) (by kernel_rfl) (by kernel_rfl) (fun _ _ _ h => h) (Or.inl ⟨by rfl, ?_⟩) hHeld ?_
  rotate_left
  · (intro w hSw; obtain ⟨q1, q2, q3, q4⟩ := hSw; go_simp; first | done | with_reducible rfl)
  simp only [Act.put, List.getElem_toArray, List.getElem_cons_zero, List.getElem_cons_succ, List.setIfInBounds_toArray, List.set_cons_zero, List.set_cons_succ]
  refine But.take (i := 7) (f := 40) (v := ?_) rfl (by kernel_rfl) (by kernel_rfl) (by kernel_rfl) (by kernel_rfl) (fun _ _ _ h => h) (Or.inl ⟨by rfl, ?_⟩) hHeld ?_
  rotate_left
  · (intro w hSw; obtain ⟨q1, q2, q3, q4⟩ := hSw; go_simp; first | done | with_reducible rfl)
  simp only [Act.put, List.getElem_toArray, List.getElem_cons_zero, List.getElem_cons_succ, List.setIfInBounds_toArray, List.set_cons_zero, List.set_cons_succ]
  refine But.take (i := 8) (f := 40) (v := ?_) rfl (by kernel_rfl) (by kernel_rfl) (by kernel_rfl) (by kernel_rfl) (fun _ _ _ h => h) (Or.inl ⟨by rfl, ?_⟩) hHeld ?_
  rotate_left
  · (intro w hSw; obtain ⟨q1, q2, q3, q4⟩ := hSw; go_simp; first | done | with_reducible rfl)
  simp only [Act.put, List.getElem_toArray, List.getElem_cons_zero, List.getElem_cons_succ, List.setIfInBounds_toArray, List.set_cons_zero, List.set_cons_succ]
  refine But.take (i := 9) (f := 40) (v := ?_) rfl (by kernel_rfl) (by kernel_rfl) (by kernel_rfl) (by kernel_rfl) (fun _ _ _ h => h) (Or.inl ⟨by rfl, ?_⟩) hHeld ?_
  rotate_left
  · (intro w hSw; obtain ⟨q1, q2, q3, q4⟩ := hSw; go_simp; first | done | with_reducible rfl)
  simp only [Act.put, List.getElem_toArray, List.getElem_cons_zero, List.getElem_cons_succ, List.setIfInBounds_toArray, List.set_cons_zero, List.set_cons_succ]
  refine But.take (i := 10) (f := 40) (v := ?_) rfl (by kernel_rfl) (by kernel_rfl) (by kernel_rfl) (by kernel_rfl) (fun _ _ _ h => h) (Or.inl ⟨by rfl, ?_⟩) hHeld ?_
  rotate_left
  · (intro w hSw; obtain ⟨q1, q2, q3, q4⟩ := hSw; go_simp; first | done | with_reducible rfl)
  simp only [Act.put, List.getElem_toArray, List.getElem_cons_zero, List.getElem_cons_succ, List.setIfInBounds_toArray, List.set_cons_zero, List.set_cons_succ]
  refine But.take (i := 11) (f := 40) (v := ?_) rfl (by kernel_rfl) (by kernel_rfl) (by kernel_rfl) (by kernel_rfl) (fun _ _ _ h => h) (Or.inl ⟨by rfl, ?_⟩) hHeld ?_
  rotate_left
  · (intro w hSw; obtain ⟨q1, q2, q3, q4⟩ := hSw; go_simp; first | done | with_reducible rfl)
  simp only [Act.put, List.getElem_toArray, List.getElem_cons_zero, List.getElem_cons_succ, List.setIfInBounds_toArray, List.set_cons_zero, List.set_cons_succ]
  refine But.take (i := 12) (f := 40) (v := ?_) rfl (by kernel_rfl) (by kernel_rfl) (by kernel_rfl) (by kernel_rfl) (fun _ _ _ h => h) (Or.inl ⟨by rfl, ?_⟩) hHeld ?_
  rotate_left
  · (intro w hSw; obtain ⟨q1, q2, q3, q4⟩ := hSw; go_simp; first | done | with_reducible rfl)
  simp only [Act.put, List.getElem_toArray, List.getElem_cons_zero, List.getElem_cons_succ, List.setIfInBounds_toArray, List.set_cons_zero, List.set_cons_succ]
  refine But.take (i := 13) (f := 40) (v := ?_) rfl (by kernel_rfl) (by kernel_rfl) (by kernel_rfl) (by kernel_rfl) (fun _ _ _ h => h) (Or.inl ⟨by rfl, ?_⟩) hHeld ?_
  rotate_left
  · (intro w hSw; obtain ⟨q1, q2, q3, q4⟩ := hSw; go_simp; first | done | with_reducible rfl)
  simp only [Act.put, List.getElem_toArray, List.getElem_cons_zero, List.getElem_cons_succ, List.setIfInBounds_toArray, List.set_cons_zero, List.set_cons_succ]
  refine But.take (i := 14) (f := 40) (v := ?_) rfl (by kernel_rfl) (by kernel_rfl) (by kernel_rfl) (by kernel_rfl) (fun _ _ _ h => h) (Or.inl ⟨by rfl, ?_⟩) hHeld ?_
  rotate_left
  · (intro w hSw; obtain ⟨q1, q2, q3, q4⟩ := hSw; go_simp; first | done | with_reducible rfl)
  simp only [Act.put, List.getElem_toArray, List.getElem_cons_zero, List.getElem_cons_succ, List.setIfInBounds_toArray, List.set_cons_zero, List.set_cons_succ]
  refine But.take (i := 15) (f := 40) (v := ?_) rfl (by kernel_rfl) (by kernel_rfl) (by kernel_rfl) (by kernel_rfl) (fun _ _ _ h => h) (Or.inl ⟨by rfl, ?_⟩) hHeld ?_
  rotate_left
  · (intro w hSw; obtain ⟨q1, q2, q3, q4⟩ := hSw; go_simp; first | done | with_reducible rfl)
  simp only [Act.put, List.getElem_toArray, List.getElem_cons_zero, List.getElem_cons_succ, List.setIfInBounds_toArray, List.set_cons_zero, List.set_cons_succ]
  refine But.take (i := 16) (f := 40) (v := ?_) rfl (by kernel_rfl) (by kernel_rfl) (by kernel_rfl) (by kernel_rfl) (fun _ _ _ h => h) (Or.inl ⟨by rfl, ?_⟩) hHeld ?_
  rotate_left
  · (intro w hSw; obtain ⟨q1, q2, q3, q4⟩ := hSw; go_simp; first | done | with_reducible rfl)
  simp only [Act.put, List.getElem_toArray, List.getElem_cons_zero, List.getElem_cons_succ, List.setIfInBounds_toArray, List.set_cons_zero, List.set_cons_succ]
  refine But.one (i := 17) rfl (by kernel_rfl) (fun K hK => ?_)
  go_simp
  have hox : R.order p < R.n := ((unhide HI).ordPos p hp).1
  have hoy : R.order (s1 - 1) < R.n := ((unhide HI).ordPos (s1 - 1) (by omega)).1
  refine (swap_any br bR bp bo bq bg bs1 cap1 (growR R g) p (s1 - 1) hp (show s1 - 1 < R.n by omega) hox hoy W.drew ((unhide HRar).keep ((Kept.refl (fun _ => False) _).drew) ⟨id, id, id, id, id, id, id⟩)).mono ?_
  rintro e w3 ⟨rfl, hRar3, hK3⟩
  refine hK.out _ _ (.inl rfl) (But.done (by kernel_rfl) ?_)
  clear hK K hHeld c0 c1 c2 c3 c4 cp cs1
  have HK3 := hide (hKW.trans (((Kept.refl (fun k => k = bo ∨ k = bq) W).drew).trans hK3 (fun _ _ h => h)) (fun k hk h => by (rcases h with h | h; exact .inr (.inr (.inl h)); exact .inr (.inr (.inr (.inl h))))))
  clear hKW hK3
  -- r.start[g+1]--, r.group[i] = g + 1
  obtain ⟨gs1, gl, hR1, eg, ep, es1⟩ := unhide Hgs
  obtain ⟨c0, c1, c2, c3, c4⟩ := hRar3.field
  have cg := hRar3.group.cell (i := i) hi
  have cs1 := hRar3.start.cell (i := g + 1) (show g + 1 < (growR R g).len by rw [unhide HL]; omega)
  rw [show (swapR (growR R g) p (s1 - 1)).start (g + 1) = s1 from gs1] at cs1
  rw [show (swapR (growR R g) p (s1 - 1)).len = L from unhide HL] at c4
  rw [show (swapR (growR R g) p (s1 - 1)).n = R.n from rfl] at c1 c2 c3
  have fs := hRar3.start.free (g + 1)
  have HRar3 := hide hRar3
  clear hRar3 gs1 gl hR1 eg ep es1
  go_upto_region 6 with fail
  refine wp_forget (fun W4 => RarAt W4 br bR bp bo bq bg bs1 cap1 { swapR (growR R g) p (s1 - 1) with start := upd (growR R g).start (g + 1) (s1 - 1) } ∧ Kept (fun k => k = br ∨ k = bp ∨ k = bo ∨ k = bq ∨ k = bg ∨ k = bs) w W4) ⟨?_, ?_⟩ ?_
  · exact (unhide HRar3).setStart (g + 1) (s1 - 1)
  · exact (unhide HK3).setCell (fun h => (hbs.elim (fun e => .inr (.inr (.inr (.inr (.inr e))))) (fun e => absurd h (Nat.not_lt.2 e)))) _
  clear c0 c1 c2 c3 c4 cg cs1 fs HRar3 HK3
  rintro W4 ⟨hRar4, hK4⟩
  have c3 : W4.cell? ⟨br, 3, none⟩ = some (.slice (some ⟨bg, 0, none⟩) R.n R.n) := hRar4.field.2.2.2.1
  have cg : W4.cell? ⟨bg, i, none⟩ = some (.int .i64 (R.group i : Nat)) := hRar4.group.cell (i := i) hi
  have fg := hRar4.group.free i
  have HRar4 := hide hRar4
  have HK4 := hide hK4
  clear hRar4 hK4
  go_upto_region 7 with fail
  refine wp_forget (fun W5 => RarAt W5 br bR bp bo bq bg bs1 cap1 (midR R i R.S) ∧ Kept (fun k => k = br ∨ k = bp ∨ k = bo ∨ k = bq ∨ k = bg ∨ k = bs) w W5) ⟨?_, ?_⟩ ?_
  · obtain ⟨gs1, gl, hR1, eg, ep, es1⟩ := unhide Hgs
    have := (unhide HRar4).setGroup i (g + 1)
    rw [← mid_eq R (growR R g) i g eg rfl (by rw [gs1, es1]), ep, es1]
    exact this
  · exact (unhide HK4).setCell (fun _ => .inr (.inr (.inr (.inr (.inl rfl))))) _
  clear c3 cg fg HRar4 HK4
  rintro W5 ⟨hRar5, hK5⟩
  obtain ⟨gs1, gl, hR1, eg, ep, es1⟩ := unhide Hgs
  have J := mid_inv (unhide HI) (i := i) hi R.S
  have hsh := shuffle_walk br bR bp bo bq bg bs1 cap1 (midR R i R.S) J hn i (g + 1) _ _ _ hi (by rw [mid_group, upd_same, eg]) rfl rfl rfl W5 hRar5
  have Hsh := hide hsh
  have HK5 := hide hK5
  clear hsh hK5 hRar5 J gs1 gl hR1 eg ep es1
  go_wp2_with fail
  refine (unhide Hsh).mono ?_
  rintro e w6 ⟨rfl, v, S', hR6, hRar6, hK6⟩
  go_wp2_with fail
  go_end0
  obtain ⟨gs1, gl, hR1, eg, ep, es1⟩ := unhide Hgs
  refine ⟨rfl, v, S', bs1, cap1, ?_, ?_, hbs, ?_⟩
  · unfold room; rw [eg]; exact hR6
  · rw [addR_mid, eg]; exact hRar6
  · exact (unhide HK5).trans hK6 (fun k hk h => by (rcases h with h | h | h; exact .inr (.inl h); exact .inr (.inr (.inl h)); exact .inr (.inr (.inr (.inl h)))))

theorem add_any (br bR bp bo bq bg bs cap : Nat) (R : RS) (I : Inv R) (hn : R.n < 4611686018427387904) (hlen : R.len < 1099511627776) (i : Nat) (hi : i < R.n) (w : World) (h : RarAt w br bR bp bo bq bg bs cap R) :
    Calls Try.prog 34 #[.pointer (some ⟨br, 0, none⟩), .int .i64 i] w fun e w' => AddPost br bR bp bo bq bg bs R i w e w' := by
  by_cases ht : R.group i + 2 = R.len
  · exact add_top br bR bp bo bq bg bs cap R I hn hlen i _ _ _ hi rfl rfl rfl ht w h
  · exact add_low br bR bp bo bq bg bs cap R I hn i _ _ _ hi rfl rfl rfl ht w h

set_option maxHeartbeats 1000000 in
theorem zzadd_any (br bR bp bo bq bg bs cap : Nat) (R : RS) (I : Inv R) (hn : R.n < 4611686018427387904) (hlen : R.len < 1099511627776) (i : Nat) (hi : i < R.n) (w : World) (h : RarAt w br bR bp bo bq bg bs cap R) :
    Calls Try.prog 10 #[.pointer (some ⟨br, 0, none⟩), .int .i64 i] w fun e w' => AddPost br bR bp bo bq bg bs R i w e w' := by
  have Hc := hide (add_any br bR bp bo bq bg bs cap R I hn hlen i hi w h)
  clear h I
  go_enter Try.func10, Try.ntmps10
  go_wp2_with fail
  refine (unhide Hc).mono ?_
  rintro e w1 ⟨rfl, hp⟩
  go_wp2_with fail
  go_end0
  exact ⟨rfl, hp⟩

set_option maxHeartbeats 1000000 in
theorem zzgroup_any (br bR bp bo bq bg bs cap : Nat) (R : RS) (w : World) (h : RarAt w br bR bp bo bq bg bs cap R) :
    Calls Try.prog 11 #[.pointer (some ⟨br, 0, none⟩)] w fun e w' => e = .returned (.slice (some ⟨bg, 0, none⟩) R.n R.n) ∧ w' = w := by
  obtain ⟨c0, c1, c2, c3, c4⟩ := h.field
  clear h
  go_enter Try.func11, Try.ntmps11
  go_wp2_with fail
  go_ret
  exact ⟨rfl, rfl⟩
set_option maxHeartbeats 1000000 in
theorem zzorder_any (br bR bp bo bq bg bs cap : Nat) (R : RS) (w : World) (h : RarAt w br bR bp bo bq bg bs cap R) :
    Calls Try.prog 13 #[.pointer (some ⟨br, 0, none⟩)] w fun e w' => e = .returned (.slice (some ⟨bo, 0, none⟩) R.n R.n) ∧ w' = w := by
  obtain ⟨c0, c1, c2, c3, c4⟩ := h.field
  clear h
  go_enter Try.func13, Try.ntmps13
  go_wp2_with fail
  go_ret
  exact ⟨rfl, rfl⟩
set_option maxHeartbeats 1000000 in
theorem zzpos_any (br bR bp bo bq bg bs cap : Nat) (R : RS) (w : World) (h : RarAt w br bR bp bo bq bg bs cap R) :
    Calls Try.prog 14 #[.pointer (some ⟨br, 0, none⟩)] w fun e w' => e = .returned (.slice (some ⟨bq, 0, none⟩) R.n R.n) ∧ w' = w := by
  obtain ⟨c0, c1, c2, c3, c4⟩ := h.field
  clear h
  go_enter Try.func14, Try.ntmps14
  go_wp2_with fail
  go_ret
  exact ⟨rfl, rfl⟩
set_option maxHeartbeats 1000000 in
theorem zzstart_any (br bR bp bo bq bg bs cap : Nat) (R : RS) (w : World) (h : RarAt w br bR bp bo bq bg bs cap R) :
    Calls Try.prog 15 #[.pointer (some ⟨br, 0, none⟩)] w fun e w' => e = .returned (.slice (some ⟨bs, 0, none⟩) R.len cap) ∧ w' = w := by
  obtain ⟨c0, c1, c2, c3, c4⟩ := h.field
  clear h
  go_enter Try.func15, Try.ntmps15
  go_wp2_with fail
  go_ret
  exact ⟨rfl, rfl⟩

end Go.Proofs.Qxb6616210a
