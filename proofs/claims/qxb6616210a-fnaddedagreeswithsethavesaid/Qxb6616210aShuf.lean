/-
  ROWS OF INTEGERS; THE WALKS OF Perm's closure (47), Shuffle (46), Perm (40).
-/
import Derived.Test.Qxb6616210aRoll
import Derived.Test.Qxb6616210aOrder
import Derived.RegionTactic
import Derived.BigRegion
namespace Go.Proofs.Qxb6616210a
open Go.RowKit Go.Lib

/-! ### Rows of n integers -/
def row (n : Nat) (f : Nat → Nat) : Array Value := Array.ofFn (n := n) fun i => Value.int .i64 (f i.1 : Nat)
theorem row_size (n : Nat) (f : Nat → Nat) : (row n f).size = n := by simp [row]
theorem row_get {n i : Nat} (f : Nat → Nat) (h : i < n) : (row n f)[i]? = some (.int .i64 (f i : Nat)) := by simp [row, h]
theorem row_none {n i : Nat} (f : Nat → Nat) (h : n ≤ i) : (row n f)[i]? = none := Array.getElem?_eq_none (by rw [row_size]; exact h)
theorem row_set {n i : Nat} (f : Nat → Nat) (v : Nat) : (row n f).setIfInBounds i (.int .i64 (v : Nat)) = row n (upd f i v) := by
  apply Array.ext_getElem?
  intro j
  by_cases hj : j < n
  · rw [row_get _ hj, Array.getElem?_setIfInBounds]
    by_cases e : i = j
    · subst e; simp [row_size, hj, upd]
    · have e' : ¬ j = i := fun h => e h.symm
      rw [if_neg e, row_get _ hj]; simp [upd, e']
  · rw [row_none _ (by omega), Array.getElem?_eq_none (by simp [row_size]; omega)]
theorem row_congr {n : Nat} {f g : Nat → Nat} (h : ∀ i, i < n → f i = g i) : row n f = row n g := by
  apply Array.ext_getElem?
  intro j
  by_cases hj : j < n
  · rw [row_get _ hj, row_get _ hj, h j hj]
  · rw [row_none _ (by omega), row_none _ (by omega)]

/-- n integers lie in block b. -/
def RowAt (w : World) (b n : Nat) (f : Nat → Nat) : Prop := w.heap[b]? = some (.cells (row n f) 3)
theorem RowAt.keep {w w' : World} {b n : Nat} {f : Nat → Nat} (h : RowAt w b n f) {F : Nat → Prop} (hk : Kept F w w') (hF : ¬ F b) : RowAt w' b n f := hk.at h hF
theorem RowAt.cell {w : World} {b n : Nat} {f : Nat → Nat} (h : RowAt w b n f) {i : Nat} (hi : i < n) : w.cell? ⟨b, i, none⟩ = some (.int .i64 (f i : Nat)) := by
  rw [cell_of_row _ _ _ _ _ _ h, row_get _ hi]
theorem RowAt.free {w : World} {b n : Nat} {f : Nat → Nat} (h : RowAt w b n f) (i : Nat) : w.frozen? ⟨b, i, none⟩ = false := frozen_of_row _ _ _ _ _ h
theorem RowAt.set {w : World} {b n : Nat} {f : Nat → Nat} (h : RowAt w b n f) (i v : Nat) : RowAt (w.setCell ⟨b, i, none⟩ (.int .i64 (v : Nat))) b n (upd f i v) := by
  unfold RowAt
  rw [heap_setCell_same _ _ _ _ _ _ h, row_set]
theorem RowAt.drewN {w : World} {b n : Nat} {f : Nat → Nat} (h : RowAt w b n f) (m : Nat) : RowAt (w.drewN m) b n f := h
theorem RowAt.drew {w : World} {b n : Nat} {f : Nat → Nat} (h : RowAt w b n f) : RowAt w.drew b n f := h
theorem RowAt.lt {w : World} {b n : Nat} {f : Nat → Nat} (h : RowAt w b n f) : b < w.heap.size := by
  rcases Nat.lt_or_ge b w.heap.size with h' | h'
  · exact h'
  · unfold RowAt at h; rw [Array.getElem?_eq_none h'] at h; cases h

theorem cell_some {w : World} {p q : Addr} {x v : Value} (h : w.cell? q = some v) : ∃ v', (w.setCell p x).cell? q = some v' := by
  by_cases e : p = q
  · subst e; exact ⟨x, World.cell?_setCell_same w p x h⟩
  · exact ⟨v, (World.cell?_setCell_other w p q x e).trans h⟩

set_option maxRecDepth 100000 in
set_option maxHeartbeats 1000000 in
theorem permSwap (bv bo n i j : Nat) (p : Nat → Nat) (hne : bo ≠ bv) (hi : i < n) (hj : j < n) (w : World) (hv : w.cell? ⟨bv, 0, none⟩ = some (.slice (some ⟨bo, 0, none⟩) n n)) (hp : RowAt w bo n p) :
    Calls Try.prog 47 #[.int .i64 i, .int .i64 j, .pointer (some ⟨bv, 0, none⟩)] w fun e w' => e = .returned (.tuple #[]) ∧ RowAt w' bo n (swp p i j) ∧ Kept (· = bo) w w' := by
  have ci := hp.cell hi
  have cj := hp.cell hj
  have fi := hp.free i
  have fj := hp.free j
  have hi' : (i : Int) < (n : Int) := by omega
  have hj' : (j : Int) < (n : Int) := by omega
  have HP := hide hp
  have hv2 : (w.setCell ⟨bo, i, none⟩ (.int .i64 (p j : Nat))).cell? ⟨bv, 0, none⟩ = some (.slice (some ⟨bo, 0, none⟩) n n) :=
    (World.cell?_setCell_other w ⟨bo, i, none⟩ ⟨bv, 0, none⟩ _ (fun e => hne (congrArg Addr.block e))).trans hv
  obtain ⟨v', hy'⟩ := cell_some (p := ⟨bo, i, none⟩) (x := .int .i64 (p j : Nat)) cj
  clear hp hi hj
  go_enter Try.func47, Try.ntmps47
  go_wp2_with fail
  go_region
  all_goals
    go_end0
    refine ⟨rfl, ?_, ?_⟩
    · exact ((unhide HP).set i (p j)).set j (p i)
    · refine Kept.drew ?_
      refine Kept.setCell (Kept.setCell (Kept.refl _ _) ?_ _) ?_ _ <;> (intro _; rfl)

/-- Shuffle's rounds i, i-1, .., 1. -/
def Shuf : Nat → (Nat → Nat) → Nat → (Nat → Nat) → Nat → Prop
  | 0, p, S, p', S' => p' = p ∧ S' = S
  | i + 1, p, S, p', S' => ∃ v S1, Pcg.Rolls S (i + 2) v S1 ∧ Shuf i (swp p (i + 1) v) S1 p' S'

theorem Shuf.one : ∀ {i : Nat} {p : Nat → Nat} {S : Nat} {p1 : Nat → Nat} {S1 : Nat} {p2 : Nat → Nat} {S2 : Nat}, Shuf i p S p1 S1 → Shuf i p S p2 S2 → p2 = p1 ∧ S2 = S1
  | 0, _, _, _, _, _, _, ⟨a, b⟩, ⟨c, d⟩ => ⟨by rw [a, c], by rw [b, d]⟩
  | _ + 1, _, _, _, _, _, _, ⟨_, _, r, h⟩, ⟨_, _, r2, h2⟩ => by
    obtain ⟨e1, e2⟩ := r.one r2
    rw [e1, e2] at h2
    exact Shuf.one h h2

theorem Shuf.bij : ∀ {i n : Nat} {p q : Nat → Nat} {S : Nat} {p' : Nat → Nat} {S' : Nat}, Shuf i p S p' S' → Bij n p q → (i = 0 ∨ i < n) → ∃ q', Bij n p' q'
  | 0, _, _, q, _, _, _, ⟨a, _⟩, hb, _ => ⟨q, by rw [a]; exact hb⟩
  | i + 1, _, _, _, _, _, _, ⟨_, _, r, h⟩, hb, hi => by
    have hv := r.lt (by omega)
    obtain ⟨q2, hb2⟩ := hb.swap (x := i + 1) (by omega) (Nat.lt_of_lt_of_le hv (by omega))
    exact Shuf.bij h hb2 (by omega)

/-- What 'Shuffle' leaves. -/
def ShufPost (bo bp n : Nat) (p : Nat → Nat) (S : Nat) (w : World) (e : Ending) (w' : World) : Prop :=
  e = .returned (.tuple #[]) ∧ ∃ p' S', Shuf (n - 1) p S p' S' ∧ S' < Pcg.W128 ∧ RowAt w' bo n p' ∧ PcgAt w' bp S' ∧ Kept (fun k => k = bo ∨ k = bp) w w'

set_option maxHeartbeats 1000000 in
theorem shuffle_any (bR bp S n bv bo : Nat) (p : Nat → Nat) (hS : S < Pcg.W128) (hn : n < 4611686018427387904) (n1 : bR ≠ bp) (n2 : bo ≠ bp) (n3 : bo ≠ bR) (n4 : bo ≠ bv) (n5 : bv ≠ bp) (w : World)
    (hr : RandAt w bR bp) (hP : PcgAt w bp S) (hv : w.cell? ⟨bv, 0, none⟩ = some (.slice (some ⟨bo, 0, none⟩) n n)) (hp : RowAt w bo n p) :
    Calls Try.prog 46 #[.pointer (some ⟨bR, 0, none⟩), .int .i64 n, .func (.func 47) #[] #[.pointer (some ⟨bv, 0, none⟩)]] w fun e w' => ShufPost bo bp n p S w e w' := by
  have HR := hide hr
  have HP := hide hP
  have HV := hide hv
  have Hp := hide hp
  have HS := hide hS
  clear hr hP hv hp hS
  go_enter Try.func46, Try.ntmps46
  go_wp2_with fail
  go_loopw [6] (fun i wr => ∃ (k : Int) (q : Nat → Nat) (S1 : Nat), i = .int .i64 k ∧ -1 ≤ k ∧ k < n ∧ Hid (∀ p' S', Shuf k.toNat q S1 p' S' → Shuf (n - 1) p S p' S') ∧ Hid (S1 < Pcg.W128) ∧ Hid (RowAt wr bo n q) ∧ Hid (PcgAt wr bp S1) ∧ Hid (Kept (fun k => k = bo ∨ k = bp) w wr)) (fun i _ => (intOf i).toNat)
  case atStart => exact ⟨(n : Int) - 1, p, S, rfl, by omega, by omega, (by rw [show ((n : Int) - 1).toNat = n - 1 by omega]; exact fun _ _ h => h), HS, Hp, HP, Kept.refl _ _⟩
  case round =>
    obtain ⟨k, q, S1, rfl, hk1, hk2, HI, HS1, Hq, HP1, HK⟩ := hrel
    by_cases h0 : 0 < k
    · obtain ⟨m, rfl⟩ : ∃ m : Nat, k = (m : Int) + 1 := ⟨(k - 1).toNat, by omega⟩
      have hc := roll_any bR bp S1 (m + 2) n1 (unhide HS1) (by omega) (by omega) wr (unhide HP1) ((unhide HR).keep (unhide HK) (by rintro (h | h); exact n3 h.symm; exact n1 h))
      rw [show ((m + 2 : Nat) : Int) = (m : Int) + 1 + 1 by omega] at hc
      have Hc := hide hc
      clear hc
      go_wp2_with fail
      refine (unhide Hc).mono ?_
      rintro e w1 ⟨v, S2, rfl, hR2, hP2, hK2⟩
      have hv := hR2.lt (by omega)
      have hcell : w1.cell? ⟨bv, 0, none⟩ = some (.slice (some ⟨bo, 0, none⟩) n n) := by
        have hlt := block_lt_of_cell (unhide HV)
        have k1 := (unhide HK).block bv hlt (by rintro (h | h); exact n4 h.symm; exact n5 h)
        have k2 := hK2.block bv (Nat.lt_of_lt_of_le hlt (unhide HK).size) n5
        rw [World.cell?_of_block (w := w) (k2.trans k1)]
        exact unhide HV
      have hs := permSwap bv bo n (m + 1) v q n4 (by omega) (by omega) w1 hcell ((unhide Hq).keep hK2 n2)
      rw [show ((m + 1 : Nat) : Int) = (m : Int) + 1 by omega] at hs
      have Hs := hide hs
      clear hs hcell
      go_wp2_with fail
      refine (unhide Hs).mono ?_
      rintro e w3 ⟨rfl, hq3, hK3⟩
      go_wp2_with fail
      go_roundw
      case rel =>
        refine ⟨(m : Int), swp q (m + 1) v, S2, by go_num, by omega, by omega, ?_, hR2.state, hq3, hP2.keep hK3 (fun h => n2 h.symm), ?_⟩
        · intro p' S' h
          refine unhide HI p' S' ?_
          rw [show ((m : Int) + 1).toNat = m + 1 by omega]
          rw [show ((m : Int)).toNat = m by omega] at h
          exact ⟨v, S2, hR2, h⟩
        · exact ((unhide HK).trans hK2 (fun _ _ h => .inr h)).trans hK3 (fun _ _ h => .inl h)
      case measure => simp [intOf]
    · go_wp2_with fail
      go_end0
      refine ⟨rfl, q, S1, ?_, unhide HS1, unhide Hq, unhide HP1, unhide HK⟩
      refine unhide HI q S1 ?_
      rw [show k.toNat = 0 by omega]
      exact ⟨rfl, rfl⟩
end Go.Proofs.Qxb6616210a
