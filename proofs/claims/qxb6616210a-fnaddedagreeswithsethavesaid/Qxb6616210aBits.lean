/-
  THE WALKS OF bitfield: New (35), check (43), Has (37).
-/
import Derived.Test.Qxb6616210aPerm
import Derived.Deep.RegionWith
import Derived.Deep.CutRange
import Derived.Deep.DrawnRows
namespace Go.Proofs.Qxb6616210a
open Go.RowKit Go.Lib
attribute [local go_sem ↓] Go.wp_at_zero Go.wp_at_succ

/-- A Bitfield as a value. -/
def bf (bb bfu nb nf n c : Nat) : Value := .agg #[.slice (some ⟨bb, 0, none⟩) nb nb, .int .i64 n, .int .i64 c, .slice (some ⟨bfu, 0, none⟩) nf nf]

/-- n integers of kind k. -/
def krow (k : IntKind) (n : Nat) (f : Nat → Nat) : Array Value := Array.ofFn (n := n) fun i => Value.int k (f i.1 : Nat)
theorem krow_size (k : IntKind) (n : Nat) (f : Nat → Nat) : (krow k n f).size = n := by simp [krow]
theorem krow_get (k : IntKind) {n i : Nat} (f : Nat → Nat) (h : i < n) : (krow k n f)[i]? = some (.int k (f i : Nat)) := by simp [krow, h]
theorem krow_none (k : IntKind) {n i : Nat} (f : Nat → Nat) (h : n ≤ i) : (krow k n f)[i]? = none := Array.getElem?_eq_none (by rw [krow_size]; exact h)
theorem krow_set (k : IntKind) {n i : Nat} (f : Nat → Nat) (v : Nat) : (krow k n f).setIfInBounds i (.int k (v : Nat)) = krow k n (upd f i v) := by
  apply Array.ext_getElem?
  intro j
  by_cases hj : j < n
  · rw [krow_get _ _ hj, Array.getElem?_setIfInBounds]
    by_cases e : i = j
    · subst e; simp [krow_size, hj, upd]
    · have e' : ¬ j = i := fun h => e h.symm
      rw [if_neg e, krow_get _ _ hj]; simp [upd, e']
  · rw [krow_none _ _ (by omega), Array.getElem?_eq_none (by simp [krow_size]; omega)]
theorem made_krow (k : IntKind) (n : Nat) : madeCells #[.int k 0] n = krow k n (fun _ => 0) := by
  apply Array.ext_getElem?
  intro j
  by_cases hj : j < n
  · rw [krow_get _ _ hj]; simp [madeCells, hj, Nat.mod_one]
  · rw [krow_none _ _ (by omega), Array.getElem?_eq_none (by rw [size_madeCells]; omega)]
theorem Try.info5 : (Try.prog.info? 5).map (fun i => (i.zero, i.size, i.bytes)) = some (some (.int .u8 0), 1, 1) := by kernel_rfl
theorem Try.info22 : (Try.prog.info? 22).map (fun i => (i.zero, i.size, i.bytes)) = some (some (.int .u64 0), 1, 8) := by kernel_rfl
theorem make_bytes (n : Nat) (hn : n ≤ 35184372088832) (w : World) : (Instr.makeSlice 57 (.int .i64 (n : Int)) (.int .i64 (n : Int))).run Try.prog w = .ok (.slice (some ⟨w.heap.size, 0, none⟩) n n) (w.alloc (.cells (krow .u8 n fun _ => 0) 5)) := by
  rw [run_make_row' (P := Try.prog) 57 5 (.int .u8 0) 1 Try.underlying57 Try.info5 rfl .i64 .i64 n (by omega) (by omega) w, made_krow]
theorem make_words (n : Nat) (hn : n ≤ 35184372088832) (w : World) : (Instr.makeSlice 58 (.int .i64 (n : Int)) (.int .i64 (n : Int))).run Try.prog w = .ok (.slice (some ⟨w.heap.size, 0, none⟩) n n) (w.alloc (.cells (krow .u64 n fun _ => 0) 22)) := by
  rw [run_make_row' (P := Try.prog) 58 22 (.int .u64 0) 8 Try.underlying58 Try.info22 rfl .i64 .i64 n (by omega) (by omega) w, made_krow]
/-- n integers of kind k lie in block b, of type t. -/
def KRow (k : IntKind) (t : TypeId) (w : World) (b n : Nat) (f : Nat → Nat) : Prop := w.heap[b]? = some (.cells (krow k n f) t)

theorem heap_step2 {w : World} {o : Obj} {k : Nat} {x : Option Obj} (hm : w.heap[k]? = x) (h : k < w.heap.size) : (w.alloc o).heap[k]? = x := by rw [Below.heap_alloc _ _ _ h, hm]
theorem heap_chain2 {w : World} {o o1 o2 : Obj} {k : Nat} (hk : k = w.heap.size) : (((w.alloc o).alloc o1).alloc o2).drew.heap[k]? = some o := by
  subst hk
  show (((w.alloc o).alloc o1).alloc o2).heap[w.heap.size]? = some o
  rw [Below.heap_alloc _ _ _ (by simp; omega), Below.heap_alloc _ _ _ (by simp)]
  exact heap_alloc_new _ _
theorem size60 : (Try.prog.info? 60).map (·.size) = some 4 := by kernel_rfl
def BNewPost (n : Nat) (w : World) (e : Ending) (w' : World) : Prop :=
  ∃ bb bfu, e = .returned (bf bb bfu ((n + 7) / 8) (((n + 7) / 8 + 63) / 64) n 0) ∧ Kept (fun _ => False) w w' ∧ w.heap.size ≤ bb ∧ w.heap.size ≤ bfu ∧ bb ≠ bfu ∧ KRow .u8 5 w' bb ((n + 7) / 8) (fun _ => 0) ∧ KRow .u64 22 w' bfu (((n + 7) / 8 + 63) / 64) (fun _ => 0)

set_option maxRecDepth 100000 in
set_option maxHeartbeats 1000000 in
theorem bnew_any (n : Nat) (hn : n ≤ 65536) (w : World) : Calls Try.prog 35 #[.int .i64 n] w (BNewPost n w) := by
  obtain ⟨nb, hnb⟩ : ∃ nb, (n + 7) / 8 = nb := ⟨_, rfl⟩
  obtain ⟨nf, hnf⟩ : ∃ nf, (nb + 63) / 64 = nf := ⟨_, rfl⟩
  have hm1 := make_bytes nb (by omega)
  have hm2 := make_words nf (by omega)
  have e1 : ((n : Int) + 7) / 8 = (nb : Int) := by omega
  have w1 : IntKind.i64.wrap ((nb : Int) + 63) = (nb : Int) + 63 := by rw [IntKind.wrap_i64]; omega
  have w2 : IntKind.i64.wrap (((nb : Int) + 63) / 64) = (nf : Int) := by rw [IntKind.wrap_i64]; omega
  have e2 : ((nb : Int) + 63) / 64 = (nf : Int) := by omega
  go_enter Try.func35, Try.ntmps35
  go_upto_region 2 with fail
  have fin : ∀ (bb bfu : Nat) (W : World), Kept (fun _ => False) w W → w.heap.size ≤ bb → w.heap.size ≤ bfu → bb ≠ bfu → KRow .u8 5 W bb nb (fun _ => 0) → KRow .u64 22 W bfu nf (fun _ => 0) → BNewPost n w (.returned (bf bb bfu nb nf n 0)) W := by
    intro bb bfu W k1 k2 k3 k4 k5 k6
    unfold BNewPost
    rw [hnb, hnf]
    exact ⟨bb, bfu, rfl, k1, k2, k3, k4, k5, k6⟩
  have Hf := hide fin
  clear fin
  go_region
  all_goals
    go_wp2_with fail
  all_goals
    refine bodyPost_ret (results_cell_row rfl _ _ w.heap.size 60 _ _ _ rfl (heap_chain2 rfl) Try.underlying60 rfl size60) rfl ?_
  all_goals
    refine unhide Hf _ _ _ (by repeat (first | exact Kept.refl _ _ | refine Kept.drew ?_ | refine Kept.alloc ?_ _)) (by omega) (by omega) (by omega) ?_ ?_
  all_goals (unfold KRow; (repeat (first | (refine heap_at _ _ _ ?_; focus (simp; done)) | rw [heap_drew] | refine heap_step2 ?_ ?_)) <;> first | omega | (simp; done) | (simp; omega))

set_option maxRecDepth 100000 in
set_option maxHeartbeats 1000000 in
theorem check_any (bb bfu nb nf n c i : Nat) (hi : i < n) (w : World) :
    Calls Try.prog 43 #[bf bb bfu nb nf n c, .int .i64 i] w fun e w' => e = .returned (.tuple #[]) ∧ Kept (fun _ => False) w w' := by
  have hi' : (i : Int) < (n : Int) := by omega
  unfold bf
  go_enter Try.func43, Try.ntmps43
  go_wp2_with fail
  go_end0
  exact ⟨rfl, (Kept.refl _ _).alloc _⟩

/-- What 'Has' reads of a byte. -/
def hasB (v i : Nat) : Bool := bits BinOp.and IntKind.u8 (v : Int) (128 / 2 ^ (i % 8)) != 0

set_option maxRecDepth 100000 in
set_option maxHeartbeats 1000000 in
theorem has_any (bb bfu nb nf n c i v : Nat) (hi : i < n) (hn : n ≤ 65536) (hb : i / 8 < nb) (w : World) (hc : w.cell? ⟨bb, i / 8, none⟩ = some (.int .u8 v)) (hl : bb < w.heap.size) :
    Calls Try.prog 37 #[bf bb bfu nb nf n c, .int .i64 i] w fun e w' => e = .returned (.bool (hasB v i)) ∧ Kept (fun _ => False) w w' := by
  have Hck := hide (fun w => check_any bb bfu nb nf n c i hi w)
  have hi' : (i : Int) < (n : Int) := by omega
  have hb' : (i : Int) / 8 < (nb : Int) := by omega
  have Hc := hide hc
  clear hc
  unfold bf at *
  go_enter Try.func37, Try.ntmps37
  go_wp2_with fail
  refine (unhide Hck _).mono ?_
  rintro e w1 ⟨rfl, hk⟩
  have h0 := hk.at (heap_at w _ _ rfl) id
  have c0 : w1.cell? ⟨w.heap.size, 0, none⟩ = some (.slice (some ⟨bb, 0, none⟩) nb nb) := by
    rw [cell_of_row _ _ _ _ _ _ h0]
    rfl
  have hk2 : Kept (fun _ => False) w w1 := (Kept.trans ((Kept.refl _ w).alloc _) hk (fun _ _ h => h))
  have c1 : w1.cell? ⟨bb, i / 8, none⟩ = some (.int .u8 v) := by
    rw [(hk2.below w.heap.size (Nat.le_refl _) (fun _ _ h => h)).cell (p := ⟨bb, i / 8, none⟩) hl]
    exact unhide Hc
  have HK := hide hk2
  clear hk hk2 h0
  have e1 : IntKind.i64.wrap ((i : Int) / 8) = (i : Int) / 8 := by rw [IntKind.wrap_i64]; omega
  have e2 : ((i : Int) / 8).toNat = i / 8 := by omega
  go_wp2_with fail
  go_quiet (fail)
  go_wp2_with fail
  go_ret
  exact ⟨rfl, (unhide HK).drewN _⟩
end Go.Proofs.Qxb6616210a
