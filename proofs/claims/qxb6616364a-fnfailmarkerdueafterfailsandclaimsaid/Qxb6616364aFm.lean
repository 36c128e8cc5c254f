/-
  A FailMarker IN MEMORY; due (24), dead (31).
-/
import Derived.Test.Qxb6616364aOr
import Derived.Deep.RegionWith
import Derived.Deep.CutRange
import Derived.Deep.DrawnRows
namespace Go.Proofs.Qxb6616364a
open Go.RowKit Go.MuLone
attribute [local go_sem ↓] Go.wp_at_zero Go.wp_at_succ
def fmRow (mf tmo mu fails fx rx : Int) : Array Value := #[.int .i64 mf, .int .i64 tmo, .int .i32 mu, .int .u32 0, .int .i64 fails, .int .u64 (fx % 1000000000), .int .i64 (fx / 1000000000), .pointer none, .int .u64 (rx % 1000000000), .int .i64 (rx / 1000000000), .pointer none, .slice none 0 0]
/-- A FailMarker lies in block b: its limits, its lock's word, its count, the last failure, the retrial; no watcher. -/
def FM (w : World) (b : Nat) (mf tmo mu fails fx rx : Int) : Prop := w.heap[b]? = some (.cells (fmRow mf tmo mu fails fx rx) 100)
theorem FM.below {w W : World} {b : Nat} {mf tmo mu fails fx rx : Int} (h : FM w b mf tmo mu fails fx rx) (hb : Below w.heap.size w W) : FM W b mf tmo mu fails fx rx := by
  have hl : b < w.heap.size := by
    refine Nat.lt_of_not_le fun e => ?_
    unfold FM at h
    rw [Array.getElem?_eq_none e] at h
    cases h
  unfold FM at *
  rw [hb.block b hl, h]
theorem FM.cells {w : World} {b : Nat} {mf tmo mu fails fx rx : Int} (h : FM w b mf tmo mu fails fx rx) :
    w.cell? ⟨b, 0, none⟩ = some (.int .i64 mf) ∧ w.cell? ⟨b, 1, none⟩ = some (.int .i64 tmo) ∧ w.cell? ⟨b, 2, none⟩ = some (.int .i32 mu) ∧ w.cell? ⟨b, 4, none⟩ = some (.int .i64 fails) ∧
    w.cell? ⟨b, 5, none⟩ = some (.int .u64 (fx % 1000000000)) ∧ w.cell? ⟨b, 6, none⟩ = some (.int .i64 (fx / 1000000000)) ∧ w.cell? ⟨b, 7, none⟩ = some (.pointer none) ∧
    w.cell? ⟨b, 8, none⟩ = some (.int .u64 (rx % 1000000000)) ∧ w.cell? ⟨b, 9, none⟩ = some (.int .i64 (rx / 1000000000)) ∧ w.cell? ⟨b, 10, none⟩ = some (.pointer none) ∧ w.cell? ⟨b, 11, none⟩ = some (.slice none 0 0) := by
  refine ⟨?_, ?_, ?_, ?_, ?_, ?_, ?_, ?_, ?_, ?_, ?_⟩ <;> (rw [cell_of_row _ _ _ _ _ _ h]; rfl)
theorem FM.free {w : World} {b : Nat} {mf tmo mu fails fx rx : Int} (h : FM w b mf tmo mu fails fx rx) (i : Nat) : w.frozen? ⟨b, i, none⟩ = false := frozen_of_row _ _ _ _ _ h
theorem FM.lt {w : World} {b : Nat} {mf tmo mu fails fx rx : Int} (h : FM w b mf tmo mu fails fx rx) : b < w.heap.size := block_lt_of_cell h.cells.1
theorem hdrew (w : World) : w.drew.heap = w.heap := rfl
theorem heap_c2 {w : World} {o o1 : Obj} : ((w.alloc o).alloc o1).heap[w.heap.size]? = some o := by
  rw [Below.heap_alloc _ _ _ (by simp)]
  exact heap_alloc_new _ _
theorem row_keep {w W : World} (h : Below w.heap.size w W) {k : Nat} {o : Obj} (hk : w.heap[k]? = some o) : W.heap[k]? = some o := by
  have hl : k < w.heap.size := by
    refine Nat.lt_of_not_le fun e => ?_
    rw [Array.getElem?_eq_none e] at hk
    cases hk
  rw [h.block k hl, hk]
theorem heap_s3 {W : World} {k : Nat} {a b c x y z : Value} {t : TypeId} (h : W.heap[k]? = some (.cells #[a, b, c] t)) : (((W.setCell ⟨k, 0, none⟩ x).setCell ⟨k, 1, none⟩ y).setCell ⟨k, 2, none⟩ z).heap[k]? = some (.cells #[x, y, z] t) :=
  heap_setCell_same _ _ _ _ _ _ (heap_setCell_same _ _ _ _ _ _ (heap_setCell_same _ _ _ _ _ _ h))
theorem below_chain {w W0 W1 W2 : World} (h0 : Below w.heap.size w W0) (h1 : Below W0.heap.size W0 W1) (h2 : Below W1.heap.size W1 W2) : Below w.heap.size w W2 :=
  (h0.trans (h1.mono h0.size)).trans (h2.mono (Nat.le_trans h0.size h1.size))
theorem below_s3 {w W : World} {k : Nat} {x y z : Value} (h : Below w.heap.size w W) (hk : w.heap.size ≤ k) : Below w.heap.size w (((W.setCell ⟨k, 0, none⟩ x).setCell ⟨k, 1, none⟩ y).setCell ⟨k, 2, none⟩ z) :=
  ((h.setCell (p := ⟨k, 0, none⟩) hk x).setCell (p := ⟨k, 1, none⟩) hk y).setCell (p := ⟨k, 2, none⟩) hk z
/-- When a marker's node is due. -/
def dueAt (tmo fx rx : Int) : Int := (if rx = 0 then fx else rx) + tmo
set_option maxRecDepth 100000 in
set_option maxHeartbeats 1000000 in
theorem due_any (b : Nat) (mf tmo mu fails fx rx : Int) (hf : -4611686018427387904 ≤ fx ∧ fx ≤ 4611686018427387904) (hr : -4611686018427387904 ≤ rx ∧ rx ≤ 4611686018427387904) (ht : -4611686018427387904 ≤ tmo ∧ tmo ≤ 4611686018427387904) (w : World) (h : FM w b mf tmo mu fails fx rx) :
    Calls Try.prog 24 #[.pointer (some ⟨b, 0, none⟩)] w fun e w' => e = .returned (T (dueAt tmo fx rx)) ∧ Below w.heap.size w w' := by
  obtain ⟨c0, c1, c2, c4, c5, c6, c7, c8, c9, c10, c11⟩ := h.cells
  have hb := h.lt
  have hb1 : b < w.heap.size + 1 := by omega
  have hb2 : b < w.heap.size + 1 + 1 := by omega
  have Hor := hide (fun W k h => or_any k rx fx W h)
  obtain ⟨x, hx⟩ : ∃ x, (if rx = 0 then fx else rx) = x := ⟨_, rfl⟩
  have hx' : -4611686018427387904 ≤ x ∧ x ≤ 4611686018427387904 := by rw [← hx]; split <;> assumption
  rw [hx] at Hor
  have Hadd := hide (fun W => tadd_any x tmo hx' ht W)
  unfold dueAt
  rw [hx]
  have HF := hide h
  clear h hx
  generalize rx % 1000000000 = rz at *
  generalize rx / 1000000000 = rs at *
  generalize fx % 1000000000 = fz at *
  generalize fx / 1000000000 = fs at *
  unfold T at *
  generalize x % 1000000000 = xz at *
  generalize x / 1000000000 = xs at *
  go_enter Try.func24, Try.ntmps24
  go_upto_region 1 with fail
  go_region_with (first
    | (go_at_call 33; refine (unhide Hor _ _ (by first | exact heap_at _ _ _ (by simp) | (rw [hdrew]; exact heap_at _ _ _ (by simp)))).mono ?_; rintro e w5 ⟨rfl, hk5⟩
       have d1 := bcell hk5 (p := ⟨b, 1, none⟩) (v := .int .i64 tmo) (by simp [go_sem, c1, hb, hb1])
       have HR5 := hide (row_keep hk5 (k := w.heap.size) (by first | exact heap_c2 | (rw [hdrew]; exact heap_c2)))
       have HK5 := hide hk5
       clear hk5)
    | (go_at_call 30; refine (unhide Hadd _).mono ?_; rintro e w6 ⟨rfl, hk6⟩
       have r6 := row_keep hk6 (unhide HR5)
       have t0 : w6.cell? ⟨w.heap.size, 0, none⟩ = some (.int .u64 0) := by rw [cell_of_row _ _ _ _ _ _ r6]; rfl
       have t1 : w6.cell? ⟨w.heap.size, 1, none⟩ = some (.int .i64 0) := by rw [cell_of_row _ _ _ _ _ _ r6]; rfl
       have t2 : w6.cell? ⟨w.heap.size, 2, none⟩ = some (.pointer none) := by rw [cell_of_row _ _ _ _ _ _ r6]; rfl
       have f0 : w6.frozen? ⟨w.heap.size, 0, none⟩ = false := frozen_of_row _ _ _ _ _ r6
       have f1 : w6.frozen? ⟨w.heap.size, 1, none⟩ = false := frozen_of_row _ _ _ _ _ r6
       have f2 : w6.frozen? ⟨w.heap.size, 2, none⟩ = false := frozen_of_row _ _ _ _ _ r6
       have HR6 := hide r6
       have HK6 := hide hk6
       clear hk6 r6))
  all_goals
    go_wp2_with fail
    refine bodyPost_ret (results_cell_row rfl _ _ w.heap.size 52 _ _ _ rfl (heap_s3 (unhide HR6)) Try.underlying52 rfl size52) rfl ?_
    refine ⟨rfl, below_s3 ?_ (Nat.le_refl _)⟩
    refine below_chain ?_ (unhide HK5) (unhide HK6)
    first | exact below2 _ _ _ | exact (below2 _ _ _).drew
end Go.Proofs.Qxb6616364a
