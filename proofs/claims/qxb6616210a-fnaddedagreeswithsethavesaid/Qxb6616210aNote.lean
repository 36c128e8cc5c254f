/-
  THE WALK OF noteFull (44).
-/
import Derived.Test.Qxb6616210aByte
import Derived.Deep.Cut
import Derived.Deep.RegionHeld3
namespace Go.Proofs.Qxb6616210a
open Go.RowKit Go.Lib
attribute [local go_sem ↓] Go.wp_at_zero Go.wp_at_succ
/-- A Bitfield lies at offset 'o' of block b (four cells). -/
def BfAt (w : World) (b bb bfu nb nf n c : Nat) : Prop :=
  w.cell? ⟨b, 0, none⟩ = some (.slice (some ⟨bb, 0, none⟩) nb nb) ∧ w.cell? ⟨b, 1, none⟩ = some (.int .i64 (n : Nat)) ∧ w.cell? ⟨b, 2, none⟩ = some (.int .i64 (c : Nat)) ∧ w.cell? ⟨b, 3, none⟩ = some (.slice (some ⟨bfu, 0, none⟩) nf nf)
theorem Kept.cellN {w w' : World} (hk : Kept (fun _ => False) w w') {p : Addr} {v : Value} (h : w.cell? p = some v) : w'.cell? p = some v := by
  rw [(hk.below w.heap.size (Nat.le_refl _) (fun _ _ h => h)).cell (block_lt_of_cell h)]; exact h
theorem bf_keep {w w' : World} {b bb bfu nb nf n c j v : Nat} {w0 : World}
    (h : w.cell? ⟨b, 0, none⟩ = some (.slice (some ⟨bb, 0, none⟩) nb nb) ∧ w.cell? ⟨b, 1, none⟩ = some (.int .i64 (n : Nat)) ∧ w.cell? ⟨b, 2, none⟩ = some (.int .i64 (c : Nat)) ∧ w.cell? ⟨b, 3, none⟩ = some (.slice (some ⟨bfu, 0, none⟩) nf nf) ∧ w.cell? ⟨bb, j, none⟩ = some (.int .u8 (v : Nat)) ∧ Hid (Kept (fun _ => False) w0 w)) (hk : Kept (fun _ => False) w w') :
    w'.cell? ⟨b, 0, none⟩ = some (.slice (some ⟨bb, 0, none⟩) nb nb) ∧ w'.cell? ⟨b, 1, none⟩ = some (.int .i64 (n : Nat)) ∧ w'.cell? ⟨b, 2, none⟩ = some (.int .i64 (c : Nat)) ∧ w'.cell? ⟨b, 3, none⟩ = some (.slice (some ⟨bfu, 0, none⟩) nf nf) ∧ w'.cell? ⟨bb, j, none⟩ = some (.int .u8 (v : Nat)) ∧ Hid (Kept (fun _ => False) w0 w') := by
  obtain ⟨h1, h2, h3, h4, h5, h6⟩ := h
  exact ⟨hk.cellN h1, hk.cellN h2, hk.cellN h3, hk.cellN h4, hk.cellN h5, hide ((unhide h6).trans hk (fun _ _ h => h))⟩
/-- The words of 'full', whatever they are. -/
def FullAt (w : World) (b nf : Nat) : Prop := ∃ cur : Array Value, w.heap[b]? = some (.cells cur 22) ∧ cur.size = nf ∧ ∀ i, i < nf → ∃ u : Int, cur[i]? = some (.int .u64 u)
theorem FullAt.keep {w w' : World} {b nf : Nat} (h : FullAt w b nf) {F : Nat → Prop} (hk : Kept F w w') (hF : ¬ F b) : FullAt w' b nf := by
  obtain ⟨cur, h1, h2⟩ := h
  exact ⟨cur, hk.at h1 hF, h2⟩
theorem FullAt.cell {w : World} {b nf : Nat} (h : FullAt w b nf) {i : Nat} (hi : i < nf) : ∃ u : Int, w.cell? ⟨b, i, none⟩ = some (.int .u64 u) := by
  obtain ⟨cur, h1, _, h2⟩ := h
  obtain ⟨u, hu⟩ := h2 i hi
  exact ⟨u, by rw [cell_of_row _ _ _ _ _ _ h1, hu]⟩
theorem FullAt.free {w : World} {b nf : Nat} (h : FullAt w b nf) (i : Nat) : w.frozen? ⟨b, i, none⟩ = false := by
  obtain ⟨cur, h1, _⟩ := h
  exact frozen_of_row _ _ _ _ _ h1
theorem FullAt.set {w : World} {b nf : Nat} (h : FullAt w b nf) (i : Nat) (u : Int) : FullAt (w.setCell ⟨b, i, none⟩ (.int .u64 u)) b nf := by
  obtain ⟨cur, h1, h2, h3⟩ := h
  refine ⟨cur.setIfInBounds i (.int .u64 u), heap_setCell_same _ _ _ _ _ _ h1, by simp [h2], fun j hj => ?_⟩
  rw [Array.getElem?_setIfInBounds]
  by_cases e : i = j
  · subst e
    exact ⟨u, by simp [h2, hj]⟩
  · rw [if_neg e]
    exact h3 j hj
set_option maxRecDepth 100000 in
set_option maxHeartbeats 1000000 in
theorem noteFull_any (b bb bfu nb nf n c j v : Nat) (hn : n ≤ 65536) (hnb : nb ≤ 65536) (hj : j < nb) (hf : j / 64 < nf) (w : World) (h : BfAt w b bb bfu nb nf n c) (hc : w.cell? ⟨bb, j, none⟩ = some (.int .u8 (v : Nat))) (hF : FullAt w bfu nf) :
    Calls Try.prog 44 #[.pointer (some ⟨b, 0, none⟩), .int .i64 j] w (fun e w' => e = .returned (.tuple #[]) ∧ Kept (· = bfu) w w' ∧ FullAt w' bfu nf) := by
  obtain ⟨c0, c1, c2, c3⟩ := h
  have hj' : (j : Int) < (nb : Int) := by omega
  have Hp := hide (fun w => pieceBits_any bb bfu nb nf n c j hn hnb hj w)
  unfold bf at Hp
  have hS : w.cell? ⟨b, 0, none⟩ = some (.slice (some ⟨bb, 0, none⟩) nb nb) ∧ w.cell? ⟨b, 1, none⟩ = some (.int .i64 (n : Nat)) ∧ w.cell? ⟨b, 2, none⟩ = some (.int .i64 (c : Nat)) ∧ w.cell? ⟨b, 3, none⟩ = some (.slice (some ⟨bfu, 0, none⟩) nf nf) ∧ w.cell? ⟨bb, j, none⟩ = some (.int .u8 (v : Nat)) ∧ Hid (Kept (fun _ => False) w w) := ⟨c0, c1, c2, c3, hc, Kept.refl _ _⟩
  have HS := hide hS
  have HF := hide hF
  clear hS hF
  go_enter Try.func44, Try.ntmps44
  go_upto_region 1 with fail
  go_region_held3 (fun w' => w'.cell? ⟨b, 0, none⟩ = some (.slice (some ⟨bb, 0, none⟩) nb nb) ∧ w'.cell? ⟨b, 1, none⟩ = some (.int .i64 (n : Nat)) ∧ w'.cell? ⟨b, 2, none⟩ = some (.int .i64 (c : Nat)) ∧ w'.cell? ⟨b, 3, none⟩ = some (.slice (some ⟨bfu, 0, none⟩) nf nf) ∧ w'.cell? ⟨bb, j, none⟩ = some (.int .u8 (v : Nat)) ∧ Hid (Kept (fun _ => False) w w'))
    (first
      | exact bf_keep (unhide HS) ((Kept.refl _ _).drew)
      | exact bf_keep ‹_› (unhide ‹_›))
    (first | (go_at_call 49; refine (unhide Hp _).mono ?_; rintro e w1 ⟨⟨p, rfl⟩, hk1⟩; have HK1 := hide hk1; clear hk1))
  have hW : w1.cell? ⟨b, 0, none⟩ = some (.slice (some ⟨bb, 0, none⟩) nb nb) ∧ w1.cell? ⟨b, 1, none⟩ = some (.int .i64 (n : Nat)) ∧ w1.cell? ⟨b, 2, none⟩ = some (.int .i64 (c : Nat)) ∧ w1.cell? ⟨b, 3, none⟩ = some (.slice (some ⟨bfu, 0, none⟩) nf nf) ∧ w1.cell? ⟨bb, j, none⟩ = some (.int .u8 (v : Nat)) ∧ Hid (Kept (fun _ => False) w w1) := by assumption
  obtain ⟨d0, d1, d2, d3, dc, HK⟩ := hW
  have HF1 := hide ((unhide HF).keep (unhide HK) id)
  obtain ⟨u, hu⟩ := (unhide HF1).cell hf
  have hfr := (unhide HF1).free (j / 64)
  have hf' : (j : Int) / 64 < (nf : Int) := by omega
  have e1 : ((j : Int) / 64).toNat = j / 64 := by omega
  have e2 : IntKind.i64.wrap ((j : Int) / 64) = (j : Int) / 64 := by rw [IntKind.wrap_i64]; omega
  have e3 : (0 : Int) ≤ (j : Int) / 64 := by omega
  clear c0 c1 c2 c3 hc d0 d1 d2 dc HS HF
  go_wp2_with fail
  all_goals
    go_end0
    exact ⟨rfl, Kept.setCell (F := (· = bfu)) ((unhide HK).mono (fun _ _ h => h.elim)) (fun _ => rfl) _, (unhide HF1).set _ _⟩
end Go.Proofs.Qxb6616210a
