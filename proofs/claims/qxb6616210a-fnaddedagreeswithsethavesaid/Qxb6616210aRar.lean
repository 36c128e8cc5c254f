/-
  THE RARITY IN MEMORY; THE WALKS OF swap (41), shuffle (42), add (34), ZZrarityAdd (10) and the four that hand out a field (11, 13, 14, 15).
-/
import Derived.Test.Qxb6616210aPerm
import Derived.Deep.RegionHeld3
import Derived.Deep.AppendLies
import Derived.Test.Qxb6616210aLast
namespace Go.Proofs.Qxb6616210a
open Go.RowKit Go.Lib
set_option linter.unusedSimpArgs false

theorem wp_forget {P : Program} {c : Code} {Q : Exit → Act → World → Prop} {a : Act} {w : World} (S : World → Prop) (h : S w) (k : ∀ w', S w' → Code.wp P c Q a w') : Code.wp P c Q a w := k w h

/-- The first len of the cap integers that lie in block b. -/
def StartAt (w : World) (b len cap : Nat) (f : Nat → Nat) : Prop :=
  ∃ cur : Array Value, w.heap[b]? = some (.cells cur 3) ∧ cur.size = cap ∧ len ≤ cap ∧ cap ≤ maxLen ∧ ∀ i, i < len → cur[i]? = some (.int .i64 (f i : Nat))
theorem StartAt.keep {w w' : World} {b len cap : Nat} {f : Nat → Nat} (h : StartAt w b len cap f) {F : Nat → Prop} (hk : Kept F w w') (hF : ¬ F b) : StartAt w' b len cap f := by
  obtain ⟨cur, h1, h2⟩ := h
  exact ⟨cur, hk.at h1 hF, h2⟩
theorem StartAt.cell {w : World} {b len cap : Nat} {f : Nat → Nat} (h : StartAt w b len cap f) {i : Nat} (hi : i < len) : w.cell? ⟨b, i, none⟩ = some (.int .i64 (f i : Nat)) := by
  obtain ⟨cur, h1, _, _, _, h2⟩ := h
  rw [cell_of_row _ _ _ _ _ _ h1, h2 i hi]
theorem StartAt.free {w : World} {b len cap : Nat} {f : Nat → Nat} (h : StartAt w b len cap f) (i : Nat) : w.frozen? ⟨b, i, none⟩ = false := by
  obtain ⟨cur, h1, _⟩ := h
  exact frozen_of_row _ _ _ _ _ h1
theorem StartAt.set {w : World} {b len cap : Nat} {f : Nat → Nat} (h : StartAt w b len cap f) (i v : Nat) : StartAt (w.setCell ⟨b, i, none⟩ (.int .i64 (v : Nat))) b len cap (upd f i v) := by
  obtain ⟨cur, h1, h2, h3, h4, h5⟩ := h
  refine ⟨cur.setIfInBounds i (.int .i64 (v : Nat)), heap_setCell_same _ _ _ _ _ _ h1, by simp [h2], h3, h4, fun j hj => ?_⟩
  rw [Array.getElem?_setIfInBounds]
  by_cases e : i = j
  · subst e
    rw [if_pos rfl, if_pos (by omega), upd_same]
  · rw [if_neg e, upd_ne _ _ (fun h => e h.symm), h5 j hj]

/-- A rarity lies in memory: the object, its random source, its four slices. -/
structure RarAt (w : World) (br bR bp bo bq bg bs cap : Nat) (R : RS) : Prop where
  obj : w.heap[br]? = some (.cells #[.pointer (some ⟨bR, 0, none⟩), .slice (some ⟨bo, 0, none⟩) R.n R.n, .slice (some ⟨bq, 0, none⟩) R.n R.n, .slice (some ⟨bg, 0, none⟩) R.n R.n, .slice (some ⟨bs, 0, none⟩) R.len cap] 56)
  rnd : RandAt w bR bp
  pcg : PcgAt w bp R.S
  state : R.S < Pcg.W128
  order : RowAt w bo R.n R.order
  pos : RowAt w bq R.n R.pos
  group : RowAt w bg R.n R.group
  start : StartAt w bs R.len cap R.start
  apart : br ≠ bR ∧ br ≠ bp ∧ br ≠ bo ∧ br ≠ bq ∧ br ≠ bg ∧ br ≠ bs ∧ bR ≠ bp ∧ bR ≠ bo ∧ bR ≠ bq ∧ bR ≠ bg ∧ bR ≠ bs ∧ bp ≠ bo ∧ bp ≠ bq ∧ bp ≠ bg ∧ bp ≠ bs ∧ bo ≠ bq ∧ bo ≠ bg ∧ bo ≠ bs ∧ bq ≠ bg ∧ bq ≠ bs ∧ bg ≠ bs

theorem RarAt.field {w : World} {br bR bp bo bq bg bs cap : Nat} {R : RS} (h : RarAt w br bR bp bo bq bg bs cap R) :
    w.cell? ⟨br, 0, none⟩ = some (.pointer (some ⟨bR, 0, none⟩)) ∧ w.cell? ⟨br, 1, none⟩ = some (.slice (some ⟨bo, 0, none⟩) R.n R.n) ∧ w.cell? ⟨br, 2, none⟩ = some (.slice (some ⟨bq, 0, none⟩) R.n R.n) ∧
    w.cell? ⟨br, 3, none⟩ = some (.slice (some ⟨bg, 0, none⟩) R.n R.n) ∧ w.cell? ⟨br, 4, none⟩ = some (.slice (some ⟨bs, 0, none⟩) R.len cap) := by
  refine ⟨?_, ?_, ?_, ?_, ?_⟩ <;> (rw [cell_of_row _ _ _ _ _ _ h.obj]; rfl)

/-- Nothing of the rarity's own blocks has turned. -/
theorem RarAt.keep {w w' : World} {br bR bp bo bq bg bs cap : Nat} {R : RS} (h : RarAt w br bR bp bo bq bg bs cap R) {F : Nat → Prop} (hk : Kept F w w')
    (hF : ¬ F br ∧ ¬ F bR ∧ ¬ F bp ∧ ¬ F bo ∧ ¬ F bq ∧ ¬ F bg ∧ ¬ F bs) : RarAt w' br bR bp bo bq bg bs cap R := by
  obtain ⟨f1, f2, f3, f4, f5, f6, f7⟩ := hF
  exact ⟨hk.at h.obj f1, h.rnd.keep hk f2, h.pcg.keep hk f3, h.state, h.order.keep hk f4, h.pos.keep hk f5, h.group.keep hk f6, h.start.keep hk f7, h.apart⟩

set_option maxRecDepth 100000 in
set_option maxHeartbeats 1000000 in
theorem swap_rows (br bo bq n x y : Nat) (order pos : Nat → Nat) (n1 : bo ≠ br) (n2 : bq ≠ br) (n3 : bo ≠ bq) (hx : x < n) (hy : y < n) (hox : order x < n) (hoy : order y < n) (w : World)
    (c1 : w.cell? ⟨br, 1, none⟩ = some (.slice (some ⟨bo, 0, none⟩) n n)) (c2 : w.cell? ⟨br, 2, none⟩ = some (.slice (some ⟨bq, 0, none⟩) n n)) (ho : RowAt w bo n order) (hp : RowAt w bq n pos) :
    Calls Try.prog 41 #[.pointer (some ⟨br, 0, none⟩), .int .i64 x, .int .i64 y] w fun e w' => e = .returned (.tuple #[]) ∧ RowAt w' bo n (swp order x y) ∧ RowAt w' bq n (upd (upd pos (order x) y) (order y) x) ∧ Kept (fun k => k = bo ∨ k = bq) w w' := by
  have cx := ho.cell hx
  have cy := ho.cell hy
  have hx' : (x : Int) < (n : Int) := by omega
  have hy' : (y : Int) < (n : Int) := by omega
  have hox' : (order x : Int) < (n : Int) := by omega
  have hoy' : (order y : Int) < (n : Int) := by omega
  have HO := hide ho
  have HP := hide hp
  clear ho hp
  go_enter Try.func41, Try.ntmps41
  go_wp2_with fail
  go_quiet (fail)
  go_wp2_with fail
  refine wp_forget (fun W => W.cell? ⟨br, 1, none⟩ = some (.slice (some ⟨bo, 0, none⟩) n n) ∧ W.cell? ⟨br, 2, none⟩ = some (.slice (some ⟨bq, 0, none⟩) n n) ∧ RowAt W bo n order ∧ RowAt W bq n pos ∧ Kept (fun k => k = bo ∨ k = bq) w W) ⟨c1, c2, unhide HO, unhide HP, (Kept.refl _ _).drewN _⟩ ?_
  clear c1 c2 HO HP cx cy
  rintro W ⟨c1, c2, ho, hp, hk⟩
  have cx := ho.cell hx
  have cy := ho.cell hy
  have fx := ho.free x
  have fy := ho.free y
  have HO := hide ho
  have HP := hide hp
  have HK := hide hk
  clear ho hp hk
  have ch : (W.setCell ⟨bo, x, none⟩ (.int .i64 (order y : Nat))).cell? ⟨br, 1, none⟩ = some (.slice (some ⟨bo, 0, none⟩) n n) :=
    (World.cell?_setCell_other W ⟨bo, x, none⟩ ⟨br, 1, none⟩ _ (fun e => n1 (congrArg Addr.block e))).trans c1
  obtain ⟨v', hv'⟩ := cell_some (p := ⟨bo, x, none⟩) (x := .int .i64 (order y : Nat)) cy
  go_region
  go_wp2_with fail
  refine wp_forget (fun W2 => W2.cell? ⟨br, 2, none⟩ = some (.slice (some ⟨bq, 0, none⟩) n n) ∧ RowAt W2 bo n (swp order x y) ∧ RowAt W2 bq n pos ∧ Kept (fun k => k = bo ∨ k = bq) w W2) ⟨?_, ?_, ?_, ?_⟩ ?_
  · have e1 := World.cell?_setCell_other W ⟨bo, x, none⟩ ⟨br, 2, none⟩ (.int .i64 (order y : Nat)) (fun e => n1 (congrArg Addr.block e))
    have e2 := World.cell?_setCell_other (W.setCell ⟨bo, x, none⟩ (.int .i64 (order y : Nat))) ⟨bo, y, none⟩ ⟨br, 2, none⟩ (.int .i64 (order x : Nat)) (fun e => n1 (congrArg Addr.block e))
    exact (e2.trans e1).trans c2
  · exact ((unhide HO).set x (order y)).set y (order x)
  · unfold RowAt
    show (World.setCell _ _ _).heap[bq]? = _
    rw [heap_setCell_other _ _ _ _ (fun e => n3 e.symm), heap_setCell_other _ _ _ _ (fun e => n3 e.symm)]
    exact unhide HP
  · refine Kept.drew ?_
    exact ((unhide HK).setCell (fun _ => .inl rfl) _).setCell (fun _ => .inl rfl) _
  clear c1 c2 cx cy fx fy HO HP HK ch hv' v' W
  rintro W ⟨c2, ho, hp, hk⟩
  have cx := hp.cell hox
  have cy := hp.cell hoy
  have fx := hp.free (order x)
  have fy := hp.free (order y)
  have HO := hide ho
  have HP := hide hp
  have HK := hide hk
  clear ho hp hk
  have ch : (W.setCell ⟨bq, order x, none⟩ (.int .i64 (y : Nat))).cell? ⟨br, 2, none⟩ = some (.slice (some ⟨bq, 0, none⟩) n n) :=
    (World.cell?_setCell_other W ⟨bq, order x, none⟩ ⟨br, 2, none⟩ _ (fun e => n2 (congrArg Addr.block e))).trans c2
  obtain ⟨v', hv'⟩ := cell_some (p := ⟨bq, order x, none⟩) (x := .int .i64 (y : Nat)) cy
  go_region
  go_wp2_with fail
  go_end0
  refine ⟨rfl, ?_, ?_, ?_⟩
  · unfold RowAt
    show (World.setCell _ _ _).heap[bo]? = _
    rw [heap_setCell_other _ _ _ _ n3, heap_setCell_other _ _ _ _ n3]
    exact unhide HO
  · exact ((unhide HP).set (order x) y).set (order y) x
  · refine Kept.drew ?_
    exact ((unhide HK).setCell (fun _ => .inr rfl) _).setCell (fun _ => .inr rfl) _

theorem not2 {a b c : Nat} (h1 : a ≠ b) (h2 : a ≠ c) : ¬ (a = b ∨ a = c) := fun h => h.elim h1 h2

theorem swap_any (br bR bp bo bq bg bs cap : Nat) (R : RS) (x y : Nat) (hx : x < R.n) (hy : y < R.n) (hox : R.order x < R.n) (hoy : R.order y < R.n) (w : World) (h : RarAt w br bR bp bo bq bg bs cap R) :
    Calls Try.prog 41 #[.pointer (some ⟨br, 0, none⟩), .int .i64 x, .int .i64 y] w fun e w' => e = .returned (.tuple #[]) ∧ RarAt w' br bR bp bo bq bg bs cap (swapR R x y) ∧ Kept (fun k => k = bo ∨ k = bq) w w' := by
  obtain ⟨_, c1, c2, _, _⟩ := h.field
  obtain ⟨rR, rp, ro, rq, rg, rs, Rp, Ro, Rq, Rg, Rs, po, pq, pg, ps, oq, og, os, qg, qs, gs⟩ := h.apart
  refine (swap_rows br bo bq R.n x y R.order R.pos ro.symm rq.symm oq hx hy hox hoy w c1 c2 h.order h.pos).mono ?_
  rintro e w' ⟨he, ho, hp, hk⟩
  exact ⟨he, ⟨hk.at h.obj (not2 ro rq), h.rnd.keep hk (not2 Ro Rq), h.pcg.keep hk (not2 po pq), h.state, ho, hp, h.group.keep hk (not2 og.symm qg.symm), h.start.keep hk (not2 os.symm qs.symm), h.apart⟩, hk⟩

/-- What IntN leaves of a rarity. -/
theorem intN_rar (br bR bp bo bq bg bs cap : Nat) (R : RS) (k : Nat) (h0 : 0 < k) (hk : k < 4611686018427387904) (w : World) (h : RarAt w br bR bp bo bq bg bs cap R) :
    Calls Try.prog 48 #[.pointer (some ⟨bR, 0, none⟩), .int .i64 k] w fun e w' => ∃ v S' : Nat, e = .returned (.int .i64 v) ∧ v < k ∧ Pcg.Rolls R.S k v S' ∧ RarAt w' br bR bp bo bq bg bs cap { R with S := S' } ∧ Kept (· = bp) w w' := by
  obtain ⟨rR, rp, ro, rq, rg, rs, Rp, Ro, Rq, Rg, Rs, po, pq, pg, ps, oq, og, os, qg, qs, gs⟩ := h.apart
  refine (intN_any bR bp R.S k Rp h.state h0 (by omega) w h.pcg h.rnd).mono ?_
  rintro e w' ⟨v, S', he, hR, hP, hK⟩
  exact ⟨v, S', he, hR.lt h0, hR, ⟨hK.at h.obj rp, h.rnd.keep hK Rp, hP, hR.state, h.order.keep hK po.symm, h.pos.keep hK pq.symm, h.group.keep hK pg.symm, h.start.keep hK ps.symm, h.apart⟩, hK⟩

/-- What the loads of 'shuffle''s last statement read. -/
def HeldSh (br bR bq bs n len cap i p g s0 s1 : Nat) (W : World) : Prop :=
  W.cell? ⟨br, 2, none⟩ = some (.slice (some ⟨bq, 0, none⟩) n n) ∧ W.cell? ⟨bq, i, none⟩ = some (.int .i64 (p : Nat)) ∧ W.cell? ⟨br, 4, none⟩ = some (.slice (some ⟨bs, 0, none⟩) len cap) ∧ W.cell? ⟨bs, g, none⟩ = some (.int .i64 (s0 : Nat)) ∧ W.cell? ⟨br, 0, none⟩ = some (.pointer (some ⟨bR, 0, none⟩)) ∧ W.cell? ⟨bs, g + 1, none⟩ = some (.int .i64 (s1 : Nat))

set_option maxRecDepth 100000 in
set_option maxHeartbeats 2000000 in
theorem shuffle_walk (br bR bp bo bq bg bs cap : Nat) (R : RS) (I : Inv R) (hn : R.n < 4611686018427387904) (i g p s0 s1 : Nat) (hi : i < R.n) (eg : R.group i = g) (ep : R.pos i = p) (es0 : R.start g = s0) (es1 : R.start (g + 1) = s1) (w : World) (h : RarAt w br bR bp bo bq bg bs cap R) :
    Calls Try.prog 42 #[.pointer (some ⟨br, 0, none⟩), .int .i64 i] w fun e w' => e = .returned (.tuple #[]) ∧ ∃ v S', Pcg.Rolls R.S (s1 - s0) v S' ∧ RarAt w' br bR bp bo bq bg bs cap (swapR { R with S := S' } p (s0 + v)) ∧ Kept (fun k => k = bp ∨ k = bo ∨ k = bq) w w' := by
  obtain ⟨c0, c1, c2, c3, c4⟩ := h.field
  obtain ⟨in1, in2⟩ := I.inside i hi
  obtain ⟨g1, g2⟩ := I.grp i hi
  have hp := (I.posOrd i hi).1
  have hle := I.le (h := R.group i + 1) (by omega)
  have cg := h.group.cell hi
  have cp := h.pos.cell hi
  have cs := h.start.cell (i := R.group i) (by omega)
  have cs1 := h.start.cell (i := R.group i + 1) (by omega)
  rw [eg] at in1 in2 g1 g2 hle cg cs cs1
  rw [ep] at in1 in2 hp cp
  rw [es0] at in1 cs
  rw [es1] at in2 hle cs1
  have hlen : R.len ≤ 9223372036854775807 := by obtain ⟨_, _, _, h1, h2, _⟩ := h.start; unfold maxLen at h2; omega
  have HH := hide h
  have HI := hide I
  have HE := hide (show R.group i = g ∧ R.pos i = p ∧ R.start g = s0 ∧ R.start (g + 1) = s1 from ⟨eg, ep, es0, es1⟩)
  clear h I eg ep es0 es1 c1
  have i1 : (i : Int) < (R.n : Int) := by omega
  have i2 : (g : Int) + 1 < (R.len : Int) := by omega
  have i3 : (g : Int) < (R.len : Int) := by omega
  have i4 : (s0 : Int) ≤ (s1 : Int) := by omega
  have i5 : (0 : Int) ≤ (g : Int) + 1 := by omega
  have e1 : (s1 : Int) - (s0 : Int) = ((s1 - s0 : Nat) : Int) := by omega
  have e2 : IntKind.i64.wrap ((g : Int) + 1) = (g : Int) + 1 := by rw [IntKind.wrap_i64]; omega
  have e3 : IntKind.i64.wrap ((s1 - s0 : Nat) : Int) = ((s1 - s0 : Nat) : Int) := by rw [IntKind.wrap_i64]; omega
  have e4 : ((g : Int) + 1).toNat = g + 1 := by omega
  go_enter Try.func42, Try.ntmps42
  go_wp2_with fail
  refine region_but (HeldSh br bR bq bs R.n R.len cap i p g s0 s1) 37 (by kernel_rfl) ?_
  have hHeld : HeldSh br bR bq bs R.n R.len cap i p g s0 s1 w.drew := ⟨c2, cp, c4, cs, c0, cs1⟩
  refine But.take (i := 0) (f := 40) (v := ?_) rfl (by kernel_rfl) (by kernel_rfl) (by kernel_rfl) (by kernel_rfl) (fun _ _ _ h => h) (Or.inl ⟨by rfl, ?_⟩) hHeld ?_
  rotate_left
  · (intro w hSw; obtain ⟨q1, q2, q3, q4, q5, q6⟩ := hSw; go_simp; first | done | with_reducible rfl)
  simp only [Act.put, List.getElem_toArray, List.getElem_cons_zero, List.getElem_cons_succ, List.setIfInBounds_toArray, List.set_cons_zero, List.set_cons_succ]
  refine But.take (i := 1) (f := 40) (v := ?_) rfl (by kernel_rfl) (by kernel_rfl) (by kernel_rfl) (by kernel_rfl) (fun _ _ _ h => h) (Or.inl ⟨by rfl, ?_⟩) hHeld ?_
  rotate_left
  · (intro w hSw; obtain ⟨q1, q2, q3, q4, q5, q6⟩ := hSw; go_simp; first | done | with_reducible rfl)
  simp only [Act.put, List.getElem_toArray, List.getElem_cons_zero, List.getElem_cons_succ, List.setIfInBounds_toArray, List.set_cons_zero, List.set_cons_succ]
  refine But.take (i := 2) (f := 40) (v := ?_) rfl (by kernel_rfl) (by kernel_rfl) (by kernel_rfl) (by kernel_rfl) (fun _ _ _ h => h) (Or.inl ⟨by rfl, ?_⟩) hHeld ?_
  rotate_left
  · (intro w hSw; obtain ⟨q1, q2, q3, q4, q5, q6⟩ := hSw; go_simp; first | done | with_reducible rfl)
  simp only [Act.put, List.getElem_toArray, List.getElem_cons_zero, List.getElem_cons_succ, List.setIfInBounds_toArray, List.set_cons_zero, List.set_cons_succ]
  refine But.take (i := 3) (f := 40) (v := ?_) rfl (by kernel_rfl) (by kernel_rfl) (by kernel_rfl) (by kernel_rfl) (fun _ _ _ h => h) (Or.inl ⟨by rfl, ?_⟩) hHeld ?_
  rotate_left
  · (intro w hSw; obtain ⟨q1, q2, q3, q4, q5, q6⟩ := hSw; go_simp; first | done | with_reducible rfl)
  simp only [Act.put, List.getElem_toArray, List.getElem_cons_zero, List.getElem_cons_succ, List.setIfInBounds_toArray, List.set_cons_zero, List.set_cons_succ]
  refine But.take (i := 4) (f := 40) (v := ?_) rfl (by kernel_rfl) (by kernel_rfl) (by kernel_rfl) (by kernel_rfl) (fun _ _ _ h => h) (Or.inl ⟨by rfl, ?_⟩) hHeld ?_
  rotate_left
  · (intro w hSw; obtain ⟨q1, q2, q3, q4, q5, q6⟩ := hSw; go_simp; first | done | with_reducible rfl)
  simp only [Act.put, List.getElem_toArray, List.getElem_cons_zero, List.getElem_cons_succ, List.setIfInBounds_toArray, List.set_cons_zero, List.set_cons_succ]
  refine But.take (i := 5) (f := 40) (v := ?_) rfl (by kernel_rfl) (by kernel_rfl) (by kernel_rfl) (by kernel_rfl) (fun _ _ _ h => h) (Or.inl ⟨by rfl, ?_⟩) hHeld ?_
  rotate_left
  · (intro w hSw; obtain ⟨q1, q2, q3, q4, q5, q6⟩ := hSw; go_simp; first | done | with_reducible rfl)
  simp only [Act.put, List.getElem_toArray, List.getElem_cons_zero, List.getElem_cons_succ, List.setIfInBounds_toArray, List.set_cons_zero, List.set_cons_succ]
  refine But.take (i := 6) (f := 40) (v := ?_) rfl (by kernel_rfl) (by kernel_rfl) (by kernel_rfl) (by kernel_rfl) (fun _ _ _ h => h) (Or.inl ⟨by rfl, ?_⟩) hHeld ?_
  rotate_left
  · (intro w hSw; obtain ⟨q1, q2, q3, q4, q5, q6⟩ := hSw; go_simp; first | done | with_reducible rfl)
  simp only [Act.put, List.getElem_toArray, List.getElem_cons_zero, List.getElem_cons_succ, List.setIfInBounds_toArray, List.set_cons_zero, List.set_cons_succ]
  refine But.take (i := 7) (f := 40) (v := ?_) rfl (by kernel_rfl) (by kernel_rfl) (by kernel_rfl) (by kernel_rfl) (fun _ _ _ h => h) (Or.inl ⟨by rfl, ?_⟩) hHeld ?_
  rotate_left
  · (intro w hSw; obtain ⟨q1, q2, q3, q4, q5, q6⟩ := hSw; go_simp; first | done | with_reducible rfl)
  simp only [Act.put, List.getElem_toArray, List.getElem_cons_zero, List.getElem_cons_succ, List.setIfInBounds_toArray, List.set_cons_zero, List.set_cons_succ]
  refine But.take (i := 8) (f := 40) (v := ?_) rfl (by kernel_rfl) (by kernel_rfl) (by kernel_rfl) (by kernel_rfl) (fun _ _ _ h => h) (Or.inl ⟨by rfl, ?_⟩) hHeld ?_
  rotate_left
  · (intro w hSw; obtain ⟨q1, q2, q3, q4, q5, q6⟩ := hSw; go_simp; first | done | with_reducible rfl)
  simp only [Act.put, List.getElem_toArray, List.getElem_cons_zero, List.getElem_cons_succ, List.setIfInBounds_toArray, List.set_cons_zero, List.set_cons_succ]
  refine But.take (i := 9) (f := 40) (v := ?_) rfl (by kernel_rfl) (by kernel_rfl) (by kernel_rfl) (by kernel_rfl) (fun _ _ _ h => h) (Or.inl ⟨by rfl, ?_⟩) hHeld ?_
  rotate_left
  · (intro w hSw; obtain ⟨q1, q2, q3, q4, q5, q6⟩ := hSw; go_simp; first | done | with_reducible rfl)
  simp only [Act.put, List.getElem_toArray, List.getElem_cons_zero, List.getElem_cons_succ, List.setIfInBounds_toArray, List.set_cons_zero, List.set_cons_succ]
  refine But.take (i := 10) (f := 40) (v := ?_) rfl (by kernel_rfl) (by kernel_rfl) (by kernel_rfl) (by kernel_rfl) (fun _ _ _ h => h) (Or.inl ⟨by rfl, ?_⟩) hHeld ?_
  rotate_left
  · (intro w hSw; obtain ⟨q1, q2, q3, q4, q5, q6⟩ := hSw; go_simp; first | done | with_reducible rfl)
  simp only [Act.put, List.getElem_toArray, List.getElem_cons_zero, List.getElem_cons_succ, List.setIfInBounds_toArray, List.set_cons_zero, List.set_cons_succ]
  refine But.take (i := 11) (f := 40) (v := ?_) rfl (by kernel_rfl) (by kernel_rfl) (by kernel_rfl) (by kernel_rfl) (fun _ _ _ h => h) (Or.inl ⟨by rfl, ?_⟩) hHeld ?_
  rotate_left
  · (intro w hSw; obtain ⟨q1, q2, q3, q4, q5, q6⟩ := hSw; go_simp; first | done | with_reducible rfl)
  simp only [Act.put, List.getElem_toArray, List.getElem_cons_zero, List.getElem_cons_succ, List.setIfInBounds_toArray, List.set_cons_zero, List.set_cons_succ]
  refine But.take (i := 12) (f := 40) (v := ?_) rfl (by kernel_rfl) (by kernel_rfl) (by kernel_rfl) (by kernel_rfl) (fun _ _ _ h => h) (Or.inl ⟨by rfl, ?_⟩) hHeld ?_
  rotate_left
  · (intro w hSw; obtain ⟨q1, q2, q3, q4, q5, q6⟩ := hSw; go_simp; first | done | with_reducible rfl)
  simp only [Act.put, List.getElem_toArray, List.getElem_cons_zero, List.getElem_cons_succ, List.setIfInBounds_toArray, List.set_cons_zero, List.set_cons_succ]
  refine But.take (i := 13) (f := 40) (v := ?_) rfl (by kernel_rfl) (by kernel_rfl) (by kernel_rfl) (by kernel_rfl) (fun _ _ _ h => h) (Or.inl ⟨by rfl, ?_⟩) hHeld ?_
  rotate_left
  · (intro w hSw; obtain ⟨q1, q2, q3, q4, q5, q6⟩ := hSw; go_simp; first | done | with_reducible rfl)
  simp only [Act.put, List.getElem_toArray, List.getElem_cons_zero, List.getElem_cons_succ, List.setIfInBounds_toArray, List.set_cons_zero, List.set_cons_succ]
  refine But.take (i := 14) (f := 40) (v := ?_) rfl (by kernel_rfl) (by kernel_rfl) (by kernel_rfl) (by kernel_rfl) (fun _ _ _ h => h) (Or.inl ⟨by rfl, ?_⟩) hHeld ?_
  rotate_left
  · (intro w hSw; obtain ⟨q1, q2, q3, q4, q5, q6⟩ := hSw; go_simp; first | done | with_reducible rfl)
  simp only [Act.put, List.getElem_toArray, List.getElem_cons_zero, List.getElem_cons_succ, List.setIfInBounds_toArray, List.set_cons_zero, List.set_cons_succ]
  refine But.take (i := 15) (f := 40) (v := ?_) rfl (by kernel_rfl) (by kernel_rfl) (by kernel_rfl) (by kernel_rfl) (fun _ _ _ h => h) (Or.inl ⟨by rfl, ?_⟩) hHeld ?_
  rotate_left
  · (intro w hSw; obtain ⟨q1, q2, q3, q4, q5, q6⟩ := hSw; go_simp; first | done | with_reducible rfl)
  simp only [Act.put, List.getElem_toArray, List.getElem_cons_zero, List.getElem_cons_succ, List.setIfInBounds_toArray, List.set_cons_zero, List.set_cons_succ]
  refine But.take (i := 16) (f := 40) (v := ?_) rfl (by kernel_rfl) (by kernel_rfl) (by kernel_rfl) (by kernel_rfl) (fun _ _ _ h => h) (Or.inl ⟨by rfl, ?_⟩) hHeld ?_
  rotate_left
  · (intro w hSw; obtain ⟨q1, q2, q3, q4, q5, q6⟩ := hSw; go_simp; first | done | with_reducible rfl)
  simp only [Act.put, List.getElem_toArray, List.getElem_cons_zero, List.getElem_cons_succ, List.setIfInBounds_toArray, List.set_cons_zero, List.set_cons_succ]
  refine But.take (i := 17) (f := 40) (v := ?_) rfl (by kernel_rfl) (by kernel_rfl) (by kernel_rfl) (by kernel_rfl) (fun _ _ _ h => h) (Or.inl ⟨by rfl, ?_⟩) hHeld ?_
  rotate_left
  · (intro w hSw; obtain ⟨q1, q2, q3, q4, q5, q6⟩ := hSw; go_simp; first | done | with_reducible rfl)
  simp only [Act.put, List.getElem_toArray, List.getElem_cons_zero, List.getElem_cons_succ, List.setIfInBounds_toArray, List.set_cons_zero, List.set_cons_succ]
  refine But.take (i := 18) (f := 40) (v := ?_) rfl (by kernel_rfl) (by kernel_rfl) (by kernel_rfl) (by kernel_rfl) (fun _ _ _ h => h) (Or.inl ⟨by rfl, ?_⟩) hHeld ?_
  rotate_left
  · (intro w hSw; obtain ⟨q1, q2, q3, q4, q5, q6⟩ := hSw; go_simp; first | done | with_reducible rfl)
  simp only [Act.put, List.getElem_toArray, List.getElem_cons_zero, List.getElem_cons_succ, List.setIfInBounds_toArray, List.set_cons_zero, List.set_cons_succ]
  refine But.take (i := 19) (f := 40) (v := ?_) rfl (by kernel_rfl) (by kernel_rfl) (by kernel_rfl) (by kernel_rfl) (fun _ _ _ h => h) (Or.inl ⟨by rfl, ?_⟩) hHeld ?_
  rotate_left
  · (intro w hSw; obtain ⟨q1, q2, q3, q4, q5, q6⟩ := hSw; go_simp; first | done | with_reducible rfl)
  simp only [Act.put, List.getElem_toArray, List.getElem_cons_zero, List.getElem_cons_succ, List.setIfInBounds_toArray, List.set_cons_zero, List.set_cons_succ]
  refine But.take (i := 20) (f := 40) (v := ?_) rfl (by kernel_rfl) (by kernel_rfl) (by kernel_rfl) (by kernel_rfl) (fun _ _ _ h => h) (Or.inl ⟨by rfl, ?_⟩) hHeld ?_
  rotate_left
  · (intro w hSw; obtain ⟨q1, q2, q3, q4, q5, q6⟩ := hSw; go_simp; first | done | with_reducible rfl)
  simp only [Act.put, List.getElem_toArray, List.getElem_cons_zero, List.getElem_cons_succ, List.setIfInBounds_toArray, List.set_cons_zero, List.set_cons_succ]
  refine But.take (i := 21) (f := 40) (v := ?_) rfl (by kernel_rfl) (by kernel_rfl) (by kernel_rfl) (by kernel_rfl) (fun _ _ _ h => h) (Or.inl ⟨by rfl, ?_⟩) hHeld ?_
  rotate_left
  · (intro w hSw; obtain ⟨q1, q2, q3, q4, q5, q6⟩ := hSw; go_simp; first | done | with_reducible rfl)
  simp only [Act.put, List.getElem_toArray, List.getElem_cons_zero, List.getElem_cons_succ, List.setIfInBounds_toArray, List.set_cons_zero, List.set_cons_succ]
  refine But.take (i := 22) (f := 40) (v := ?_) rfl (by kernel_rfl) (by kernel_rfl) (by kernel_rfl) (by kernel_rfl) (fun _ _ _ h => h) (Or.inl ⟨by rfl, ?_⟩) hHeld ?_
  rotate_left
  · (intro w hSw; obtain ⟨q1, q2, q3, q4, q5, q6⟩ := hSw; go_simp; first | done | with_reducible rfl)
  simp only [Act.put, List.getElem_toArray, List.getElem_cons_zero, List.getElem_cons_succ, List.setIfInBounds_toArray, List.set_cons_zero, List.set_cons_succ]
  refine But.take (i := 23) (f := 40) (v := ?_) rfl (by kernel_rfl) (by kernel_rfl) (by kernel_rfl) (by kernel_rfl) (fun _ _ _ h => h) (Or.inl ⟨by rfl, ?_⟩) hHeld ?_
  rotate_left
  · (intro w hSw; obtain ⟨q1, q2, q3, q4, q5, q6⟩ := hSw; go_simp; first | done | with_reducible rfl)
  simp only [Act.put, List.getElem_toArray, List.getElem_cons_zero, List.getElem_cons_succ, List.setIfInBounds_toArray, List.set_cons_zero, List.set_cons_succ]
  refine But.take (i := 24) (f := 40) (v := ?_) rfl (by kernel_rfl) (by kernel_rfl) (by kernel_rfl) (by kernel_rfl) (fun _ _ _ h => h) (Or.inl ⟨by rfl, ?_⟩) hHeld ?_
  rotate_left
  · (intro w hSw; obtain ⟨q1, q2, q3, q4, q5, q6⟩ := hSw; go_simp; first | done | with_reducible rfl)
  simp only [Act.put, List.getElem_toArray, List.getElem_cons_zero, List.getElem_cons_succ, List.setIfInBounds_toArray, List.set_cons_zero, List.set_cons_succ]
  refine But.take (i := 25) (f := 40) (v := ?_) rfl (by kernel_rfl) (by kernel_rfl) (by kernel_rfl) (by kernel_rfl) (fun _ _ _ h => h) (Or.inl ⟨by rfl, ?_⟩) hHeld ?_
  rotate_left
  · (intro w hSw; obtain ⟨q1, q2, q3, q4, q5, q6⟩ := hSw; go_simp; first | done | with_reducible rfl)
  simp only [Act.put, List.getElem_toArray, List.getElem_cons_zero, List.getElem_cons_succ, List.setIfInBounds_toArray, List.set_cons_zero, List.set_cons_succ]
  refine But.take (i := 26) (f := 40) (v := ?_) rfl (by kernel_rfl) (by kernel_rfl) (by kernel_rfl) (by kernel_rfl) (fun _ _ _ h => h) (Or.inl ⟨by rfl, ?_⟩) hHeld ?_
  rotate_left
  · (intro w hSw; obtain ⟨q1, q2, q3, q4, q5, q6⟩ := hSw; go_simp; first | done | with_reducible rfl)
  simp only [Act.put, List.getElem_toArray, List.getElem_cons_zero, List.getElem_cons_succ, List.setIfInBounds_toArray, List.set_cons_zero, List.set_cons_succ]
  refine But.take (i := 27) (f := 40) (v := ?_) rfl (by kernel_rfl) (by kernel_rfl) (by kernel_rfl) (by kernel_rfl) (fun _ _ _ h => h) (Or.inl ⟨by rfl, ?_⟩) hHeld ?_
  rotate_left
  · (intro w hSw; obtain ⟨q1, q2, q3, q4, q5, q6⟩ := hSw; go_simp; first | done | with_reducible rfl)
  simp only [Act.put, List.getElem_toArray, List.getElem_cons_zero, List.getElem_cons_succ, List.setIfInBounds_toArray, List.set_cons_zero, List.set_cons_succ]
  refine But.take (i := 28) (f := 40) (v := ?_) rfl (by kernel_rfl) (by kernel_rfl) (by kernel_rfl) (by kernel_rfl) (fun _ _ _ h => h) (Or.inl ⟨by rfl, ?_⟩) hHeld ?_
  rotate_left
  · (intro w hSw; obtain ⟨q1, q2, q3, q4, q5, q6⟩ := hSw; go_simp; first | done | with_reducible rfl)
  simp only [Act.put, List.getElem_toArray, List.getElem_cons_zero, List.getElem_cons_succ, List.setIfInBounds_toArray, List.set_cons_zero, List.set_cons_succ]
  refine But.take (i := 29) (f := 40) (v := ?_) rfl (by kernel_rfl) (by kernel_rfl) (by kernel_rfl) (by kernel_rfl) (fun _ _ _ h => h) (Or.inl ⟨by rfl, ?_⟩) hHeld ?_
  rotate_left
  · (intro w hSw; obtain ⟨q1, q2, q3, q4, q5, q6⟩ := hSw; go_simp; first | done | with_reducible rfl)
  simp only [Act.put, List.getElem_toArray, List.getElem_cons_zero, List.getElem_cons_succ, List.setIfInBounds_toArray, List.set_cons_zero, List.set_cons_succ]
  refine But.take (i := 30) (f := 40) (v := ?_) rfl (by kernel_rfl) (by kernel_rfl) (by kernel_rfl) (by kernel_rfl) (fun _ _ _ h => h) (Or.inl ⟨by rfl, ?_⟩) hHeld ?_
  rotate_left
  · (intro w hSw; obtain ⟨q1, q2, q3, q4, q5, q6⟩ := hSw; go_simp; first | done | with_reducible rfl)
  simp only [Act.put, List.getElem_toArray, List.getElem_cons_zero, List.getElem_cons_succ, List.setIfInBounds_toArray, List.set_cons_zero, List.set_cons_succ]
  refine But.take (i := 31) (f := 40) (v := ?_) rfl (by kernel_rfl) (by kernel_rfl) (by kernel_rfl) (by kernel_rfl) (fun _ _ _ h => h) (Or.inl ⟨by rfl, ?_⟩) hHeld ?_
  rotate_left
  · (intro w hSw; obtain ⟨q1, q2, q3, q4, q5, q6⟩ := hSw; go_simp; first | done | with_reducible rfl)
  simp only [Act.put, List.getElem_toArray, List.getElem_cons_zero, List.getElem_cons_succ, List.setIfInBounds_toArray, List.set_cons_zero, List.set_cons_succ]
  refine But.take (i := 32) (f := 40) (v := ?_) rfl (by kernel_rfl) (by kernel_rfl) (by kernel_rfl) (by kernel_rfl) (fun _ _ _ h => h) (Or.inl ⟨by rfl, ?_⟩) hHeld ?_
  rotate_left
  · (intro w hSw; obtain ⟨q1, q2, q3, q4, q5, q6⟩ := hSw; go_simp; first | done | with_reducible rfl)
  simp only [Act.put, List.getElem_toArray, List.getElem_cons_zero, List.getElem_cons_succ, List.setIfInBounds_toArray, List.set_cons_zero, List.set_cons_succ]
  refine But.take (i := 33) (f := 40) (v := ?_) rfl (by kernel_rfl) (by kernel_rfl) (by kernel_rfl) (by kernel_rfl) (fun _ _ _ h => h) (Or.inl ⟨by rfl, ?_⟩) hHeld ?_
  rotate_left
  · (intro w hSw; obtain ⟨q1, q2, q3, q4, q5, q6⟩ := hSw; go_simp; first | done | with_reducible rfl)
  simp only [Act.put, List.getElem_toArray, List.getElem_cons_zero, List.getElem_cons_succ, List.setIfInBounds_toArray, List.set_cons_zero, List.set_cons_succ]
  refine But.take (i := 34) (f := 40) (v := ?_) rfl (by kernel_rfl) (by kernel_rfl) (by kernel_rfl) (by kernel_rfl) (fun _ _ _ h => h) (Or.inl ⟨by rfl, ?_⟩) hHeld ?_
  rotate_left
  · (intro w hSw; obtain ⟨q1, q2, q3, q4, q5, q6⟩ := hSw; go_simp; first | done | with_reducible rfl)
  simp only [Act.put, List.getElem_toArray, List.getElem_cons_zero, List.getElem_cons_succ, List.setIfInBounds_toArray, List.set_cons_zero, List.set_cons_succ]
  refine But.one (i := 35) rfl (by kernel_rfl) (fun K hK => ?_)
  go_simp
  refine (intN_rar br bR bp bo bq bg bs cap R (s1 - s0) (by omega) (by omega) _ ((unhide HH).keep ((Kept.refl (fun _ => False) _).drew) ⟨id, id, id, id, id, id, id⟩)).mono ?_
  rintro e w1 ⟨v, S', rfl, hv, hR, hRar, hK2⟩
  have hHeld1 : HeldSh br bR bq bs R.n R.len cap i p g s0 s1 w1 := by
    obtain ⟨z0, z1, z2, z3, z4⟩ := hRar.field
    obtain ⟨x1, x2, x3, x4⟩ := unhide HE
    have y1 := hRar.pos.cell (i := i) hi
    have y2 := hRar.start.cell (i := g) (show g < R.len by omega)
    have y3 := hRar.start.cell (i := g + 1) (show g + 1 < R.len by omega)
    refine ⟨z2, ?_, z4, ?_, z0, ?_⟩
    · rw [y1]; show some (Value.int .i64 (R.pos i : Nat)) = _; rw [x2]
    · rw [y2]; show some (Value.int .i64 (R.start g : Nat)) = _; rw [x3]
    · rw [y3]; show some (Value.int .i64 (R.start (g + 1) : Nat)) = _; rw [x4]
  refine hK.out _ _ (.inr hHeld1) ?_
  clear hK K hHeld
  have e5 : IntKind.i64.wrap ((s0 : Int) + (v : Int)) = ((s0 + v : Nat) : Int) := by rw [IntKind.wrap_i64]; omega
  refine But.take (i := 36) (f := 40) (v := ?_) rfl (by kernel_rfl) (by kernel_rfl) (by kernel_rfl) (by kernel_rfl) (fun _ _ _ h => h) (Or.inl ⟨by rfl, ?_⟩) hHeld1 ?_
  rotate_left
  · (intro w hSw; obtain ⟨q1, q2, q3, q4, q5, q6⟩ := hSw; go_simp; first | done | with_reducible rfl)
  simp only [Act.put, List.getElem_toArray, List.getElem_cons_zero, List.getElem_cons_succ, List.setIfInBounds_toArray, List.set_cons_zero, List.set_cons_succ]
  have Hsw := hide (swap_any br bR bp bo bq bg bs cap { R with S := S' } p (s0 + v) hp (show s0 + v < R.n by omega) ((unhide HI).ordPos p hp).1 ((unhide HI).ordPos (s0 + v) (by omega)).1 w1 hRar)
  have HR := hide hR
  have HK2 := hide hK2
  clear hR hRar hHeld1 hK2
  refine But.one (i := 37) rfl (by kernel_rfl) (fun K hK => ?_)
  go_simp
  refine (unhide Hsw).mono ?_
  rintro e w3 ⟨rfl, hRar3, hK3⟩
  refine hK.out _ _ (.inl rfl) (But.done (by kernel_rfl) ?_)
  clear hK K
  go_wp2_with fail
  go_end0
  refine ⟨rfl, v, S', unhide HR, hRar3, ?_⟩
  exact (((Kept.refl _ w).drew).trans (unhide HK2) (fun _ _ h => .inl h)).trans hK3 (fun _ _ h => .inr h)
end Go.Proofs.Qxb6616210a
