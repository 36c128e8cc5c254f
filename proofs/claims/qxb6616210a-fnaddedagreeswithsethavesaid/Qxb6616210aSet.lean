/-
  A PEER IN MEMORY, AND THE WALK OF Set (38).
-/
import Derived.Test.Qxb6616210aNote
import Derived.Test.Qxb6616210aMatch
namespace Go.Proofs.Qxb6616210a
open Go.RowKit Go.Lib
attribute [local go_sem ↓] Go.wp_at_zero Go.wp_at_succ
/-- Bytes and words of a field of n bits. -/
def nbs (n : Nat) : Nat := (n + 7) / 8
def nfs (n : Nat) : Nat := ((n + 7) / 8 + 63) / 64
theorem nbs_lt {n i : Nat} (h : i < n) : i / 8 < nbs n := by unfold nbs; omega
theorem nfs_lt {n i : Nat} (h : i < n) : i / 8 / 64 < nfs n := by unfold nfs; omega
theorem nbs_le {n : Nat} (h : n ≤ 65536) : nbs n ≤ 65536 := by unfold nbs; omega
theorem KRow.keep {k : IntKind} {t : TypeId} {w w' : World} {b n : Nat} {f : Nat → Nat} (h : KRow k t w b n f) {F : Nat → Prop} (hk : Kept F w w') (hF : ¬ F b) : KRow k t w' b n f := hk.at h hF
theorem KRow.cell {k : IntKind} {t : TypeId} {w : World} {b n : Nat} {f : Nat → Nat} (h : KRow k t w b n f) {i : Nat} (hi : i < n) : w.cell? ⟨b, i, none⟩ = some (.int k (f i : Nat)) := by
  rw [cell_of_row _ _ _ _ _ _ h, krow_get _ _ hi]
theorem KRow.free {k : IntKind} {t : TypeId} {w : World} {b n : Nat} {f : Nat → Nat} (h : KRow k t w b n f) (i : Nat) : w.frozen? ⟨b, i, none⟩ = false := frozen_of_row _ _ _ _ _ h
theorem KRow.set {k : IntKind} {t : TypeId} {w : World} {b n : Nat} {f : Nat → Nat} (h : KRow k t w b n f) (i v : Nat) : KRow k t (w.setCell ⟨b, i, none⟩ (.int k (v : Nat))) b n (upd f i v) := by
  unfold KRow at *
  rw [heap_setCell_same _ _ _ _ _ _ h, krow_set]
theorem KRow.lt {k : IntKind} {t : TypeId} {w : World} {b n : Nat} {f : Nat → Nat} (h : KRow k t w b n f) : b < w.heap.size := lt_of_some h

/-- The bits of a field: byte j is B j, and piece i is in it when H i says so. -/
structure BitsOf (n : Nat) (B : Nat → Nat) (H : Nat → Bool) : Prop where
  byte : ∀ j, B j < 256
  has : ∀ i, i < n → hasB (B (i / 8)) i = H i
theorem BitsOf.zero (n : Nat) : BitsOf n (fun _ => 0) (fun _ => false) := ⟨fun _ => by omega, fun i _ => hasB_zero i⟩
theorem BitsOf.set {n : Nat} {B : Nat → Nat} {H : Nat → Bool} (h : BitsOf n B H) (i : Nat) : BitsOf n (upd B (i / 8) (setB (B (i / 8)) i)) (bupd H i true) := by
  refine ⟨fun j => ?_, fun j hj => ?_⟩
  · unfold upd
    split
    · exact (setB_or (h.byte _) i).2
    · exact h.byte j
  · by_cases e : j / 8 = i / 8
    · rw [e, upd_same, hasB_set (h.byte _)]
      by_cases e2 : i = j
      · subst e2
        rw [bupd_same]; simp
      · have e3 : ¬ i % 8 = j % 8 := by omega
        rw [bupd_ne _ _ (fun h => e2 h.symm), ← h.has j hj, e]; simp [e3]
    · rw [upd_ne _ _ e, h.has j hj, bupd_ne _ _ (fun h => e (by rw [h]))]

def peerRow (bb bfu n c mb wt : Nat) : Array Value := #[.slice (some ⟨bb, 0, none⟩) (nbs n) (nbs n), .int .i64 n, .int .i64 c, .slice (some ⟨bfu, 0, none⟩) (nfs n) (nfs n), .map (some mb), .int .i64 0, .int .i64 wt, .int .i64 0, .bool false]
/-- A peer lies in memory: its own object, its bits (H), the words of 'full', its (empty) map of banned pieces. -/
structure PeerAt (w : World) (b bb bfu mb n : Nat) (H : Nat → Bool) (c wt : Nat) : Prop where
  obj : w.heap[b]? = some (.cells (peerRow bb bfu n c mb wt) 70)
  bits : ∃ B, KRow .u8 5 w bb (nbs n) B ∧ BitsOf n B H
  full : FullAt w bfu (nfs n)
  ban : w.heap[mb]? = some (.map #[] 0)
  apart : b ≠ bb ∧ b ≠ bfu ∧ b ≠ mb ∧ bb ≠ bfu ∧ bb ≠ mb ∧ bfu ≠ mb
theorem PeerAt.keep {w w' : World} {b bb bfu mb n : Nat} {H : Nat → Bool} {c wt : Nat} (h : PeerAt w b bb bfu mb n H c wt) {F : Nat → Prop} (hk : Kept F w w') (h1 : ¬ F b) (h2 : ¬ F bb) (h3 : ¬ F bfu) (h4 : ¬ F mb) : PeerAt w' b bb bfu mb n H c wt := by
  obtain ⟨B, hB, hb⟩ := h.bits
  exact ⟨hk.at h.obj h1, ⟨B, hB.keep hk h2, hb⟩, h.full.keep hk h3, hk.at h.ban h4, h.apart⟩
theorem PeerAt.keepN {w w' : World} {b bb bfu mb n : Nat} {H : Nat → Bool} {c wt : Nat} (h : PeerAt w b bb bfu mb n H c wt) (hk : Kept (fun _ => False) w w') : PeerAt w' b bb bfu mb n H c wt := h.keep hk id id id id
theorem PeerAt.bf {w : World} {b bb bfu mb n : Nat} {H : Nat → Bool} {c wt : Nat} (h : PeerAt w b bb bfu mb n H c wt) : BfAt w b bb bfu (nbs n) (nfs n) n c := by
  refine ⟨?_, ?_, ?_, ?_⟩ <;> (rw [cell_of_row _ _ _ _ _ _ h.obj]; rfl)
theorem PeerAt.cell4 {w : World} {b bb bfu mb n : Nat} {H : Nat → Bool} {c wt : Nat} (h : PeerAt w b bb bfu mb n H c wt) : w.cell? ⟨b, 4, none⟩ = some (.map (some mb)) := by rw [cell_of_row _ _ _ _ _ _ h.obj]; rfl
theorem PeerAt.cell6 {w : World} {b bb bfu mb n : Nat} {H : Nat → Bool} {c wt : Nat} (h : PeerAt w b bb bfu mb n H c wt) : w.cell? ⟨b, 6, none⟩ = some (.int .i64 (wt : Nat)) := by rw [cell_of_row _ _ _ _ _ _ h.obj]; rfl
theorem PeerAt.free {w : World} {b bb bfu mb n : Nat} {H : Nat → Bool} {c wt : Nat} (h : PeerAt w b bb bfu mb n H c wt) (i : Nat) : w.frozen? ⟨b, i, none⟩ = false := frozen_of_row _ _ _ _ _ h.obj
theorem PeerAt.lt {w : World} {b bb bfu mb n : Nat} {H : Nat → Bool} {c wt : Nat} (h : PeerAt w b bb bfu mb n H c wt) : b < w.heap.size ∧ bb < w.heap.size ∧ bfu < w.heap.size ∧ mb < w.heap.size := by
  obtain ⟨B, hB, _⟩ := h.bits
  obtain ⟨cur, hc, _⟩ := h.full
  exact ⟨lt_of_some h.obj, hB.lt, lt_of_some hc, lt_of_some h.ban⟩
theorem PeerAt.setWanted {w : World} {b bb bfu mb n : Nat} {H : Nat → Bool} {c wt : Nat} (h : PeerAt w b bb bfu mb n H c wt) (v : Nat) : PeerAt (w.setCell ⟨b, 6, none⟩ (.int .i64 (v : Nat))) b bb bfu mb n H c v := by
  obtain ⟨B, hB, hb⟩ := h.bits
  obtain ⟨a1, a2, a3, a4, a5, a6⟩ := h.apart
  have K := Kept.cell1 (w := w) ⟨b, 6, none⟩ (.int .i64 (v : Nat))
  refine ⟨?_, ⟨B, hB.keep K a1.symm, hb⟩, h.full.keep K a2.symm, K.at h.ban a3.symm, h.apart⟩
  rw [heap_setCell_same _ _ _ _ _ _ h.obj]
  rfl
theorem PeerAt.setCount {w : World} {b bb bfu mb n : Nat} {H : Nat → Bool} {c wt : Nat} (h : PeerAt w b bb bfu mb n H c wt) (v : Nat) : PeerAt (w.setCell ⟨b, 2, none⟩ (.int .i64 (v : Nat))) b bb bfu mb n H v wt := by
  obtain ⟨B, hB, hb⟩ := h.bits
  obtain ⟨a1, a2, a3, a4, a5, a6⟩ := h.apart
  have K := Kept.cell1 (w := w) ⟨b, 2, none⟩ (.int .i64 (v : Nat))
  refine ⟨?_, ⟨B, hB.keep K a1.symm, hb⟩, h.full.keep K a2.symm, K.at h.ban a3.symm, h.apart⟩
  rw [heap_setCell_same _ _ _ _ _ _ h.obj]
  rfl
theorem PeerAt.setFull {w w' : World} {b bb bfu mb n : Nat} {H : Nat → Bool} {c wt : Nat} (h : PeerAt w b bb bfu mb n H c wt) (hk : Kept (· = bfu) w w') (hf : FullAt w' bfu (nfs n)) : PeerAt w' b bb bfu mb n H c wt := by
  obtain ⟨B, hB, hb⟩ := h.bits
  obtain ⟨a1, a2, a3, a4, a5, a6⟩ := h.apart
  exact ⟨hk.at h.obj a2, ⟨B, hB.keep hk a4, hb⟩, hf, hk.at h.ban a6.symm, h.apart⟩

/-- 'Has' of a peer's field. -/
theorem phas_any (b bb bfu mb n : Nat) (H : Nat → Bool) (c wt i : Nat) (hi : i < n) (hn : n ≤ 65536) (w : World) (h : PeerAt w b bb bfu mb n H c wt) :
    Calls Try.prog 37 #[bf bb bfu (nbs n) (nfs n) n c, .int .i64 i] w fun e w' => e = .returned (.bool (H i)) ∧ Kept (fun _ => False) w w' := by
  obtain ⟨B, hB, hb⟩ := h.bits
  rw [← hb.has i hi]
  exact has_any bb bfu (nbs n) (nfs n) n c i _ hi hn (nbs_lt hi) w (hB.cell (nbs_lt hi)) hB.lt

theorem PeerAt.setBit {w : World} {b bb bfu mb n : Nat} {H : Nat → Bool} {c wt : Nat} (h : PeerAt w b bb bfu mb n H c wt) {B : Nat → Nat} (hB : KRow .u8 5 w bb (nbs n) B) (hb : BitsOf n B H) (i : Nat) : PeerAt (w.setCell ⟨bb, i / 8, none⟩ (.int .u8 (setB (B (i / 8)) i : Nat))).drew b bb bfu mb n (bupd H i true) c wt := by
  obtain ⟨a1, a2, a3, a4, a5, a6⟩ := h.apart
  have K := (Kept.cell1 (w := w) ⟨bb, i / 8, none⟩ (.int .u8 (setB (B (i / 8)) i : Nat))).drew
  exact ⟨K.at h.obj a1, ⟨_, hB.set _ _, hb.set i⟩, h.full.keep K a4.symm, K.at h.ban a5.symm, h.apart⟩
def SetPost (b bb bfu mb n : Nat) (H : Nat → Bool) (c wt i : Nat) (w : World) (e : Ending) (w' : World) : Prop :=
  e = .returned (.tuple #[]) ∧ PeerAt w' b bb bfu mb n (bupd H i true) (c + 1) wt ∧ Kept (fun k => k = b ∨ k = bb ∨ k = bfu) w w'
set_option maxRecDepth 100000 in
set_option maxHeartbeats 1000000 in
theorem set_any (b bb bfu mb n : Nat) (H : Nat → Bool) (c wt i : Nat) (hi : i < n) (hn : n ≤ 65536) (hc : c < 4611686018427387904) (hH : H i = false) (w : World) (h : PeerAt w b bb bfu mb n H c wt) :
    Calls Try.prog 38 #[.pointer (some ⟨b, 0, none⟩), .int .i64 i] w (SetPost b bb bfu mb n H c wt i w) := by
  obtain ⟨c0, c1, c2, c3⟩ := h.bf
  have Hck := hide (fun w => check_any bb bfu (nbs n) (nfs n) n c i hi w)
  have Hh := hide (fun w h => phas_any b bb bfu mb n H c wt i hi hn w h)
  rw [hH] at Hh
  unfold bf at Hck Hh
  have HP := hide h
  clear h
  go_enter Try.func38, Try.ntmps38
  go_wp2_with fail
  refine (unhide Hck _).mono ?_
  rintro e w1 ⟨rfl, hk1⟩
  have HP1 := hide ((unhide HP).keepN hk1)
  have HK1 := hide hk1
  clear c0 c1 c2 c3 hk1
  obtain ⟨c0, c1, c2, c3⟩ := (unhide HP1).bf
  go_wp2_with fail
  refine (unhide Hh _ (unhide HP1)).mono ?_
  rintro e w2 ⟨rfl, hk2⟩
  have HP2 := hide ((unhide HP1).keepN hk2)
  have HK2 := hide ((unhide HK1).trans hk2 (fun _ _ h => h))
  clear c0 c1 c2 c3 hk2 HP1 HK1
  obtain ⟨c0, c1, c2, c3⟩ := (unhide HP2).bf
  obtain ⟨B, hB, hb⟩ := (unhide HP2).bits
  have cb := hB.cell (nbs_lt hi)
  have fb := hB.free (i / 8)
  have HB := hide hB
  have Hb := hide hb
  have hv := setB_or (hb.byte (i / 8)) i
  obtain ⟨hv1, hv2⟩ := hv
  have fr := (unhide HP2).free 2
  clear hB hb
  have hb' : (i : Int) / 8 < (nbs n : Int) := by have := nbs_lt hi; omega
  have e1 : IntKind.i64.wrap ((i : Int) / 8) = (i : Int) / 8 := by rw [IntKind.wrap_i64]; omega
  have e2 : ((i : Int) / 8).toNat = i / 8 := by omega
  have e3 : (0 : Int) ≤ (i : Int) / 8 := by omega
  go_wp2_with fail
  go_region
  all_goals
    go_upto_region 3 with fail
    refine wp_forget (fun W => PeerAt W b bb bfu mb n (bupd H i true) c wt ∧ Kept (fun k => k = b ∨ k = bb ∨ k = bfu) w W) ⟨(unhide HP2).setBit (unhide HB) (unhide Hb) i, (Kept.setCell (F := fun k => k = b ∨ k = bb ∨ k = bfu) ((unhide HK2).mono (fun _ _ h => h.elim)) (fun _ => .inr (.inl rfl)) _).drew⟩ ?_
    rintro w3 ⟨hP3, hK3⟩
    have HP3 := hide hP3
    have HK3 := hide hK3
    clear hP3 hK3 HP2 HK2 HB Hb c0 c1 c2 c3 cb fb fr hv1
    obtain ⟨c0, c1, c2, c3⟩ := (unhide HP3).bf
    have fr := (unhide HP3).free 2
    go_upto_region 4 with fail
    rw [show ((c : Int) + 1) = ((c + 1 : Nat) : Int) by omega]
    refine wp_forget (fun W => PeerAt W b bb bfu mb n (bupd H i true) (c + 1) wt ∧ Kept (fun k => k = b ∨ k = bb ∨ k = bfu) w W) ⟨(unhide HP3).setCount (c + 1), Kept.setCell (F := fun k => k = b ∨ k = bb ∨ k = bfu) (unhide HK3) (fun _ => .inl rfl) _⟩ ?_
    rintro w4 ⟨hP4, hK4⟩
    obtain ⟨B4, hB4, hb4⟩ := hP4.bits
    have Hnf := hide (noteFull_any b bb bfu (nbs n) (nfs n) n (c + 1) (i / 8) _ hn (nbs_le hn) (nbs_lt hi) (nfs_lt hi) w4 hP4.bf (hB4.cell (nbs_lt hi)) hP4.full)
    have HP4 := hide hP4
    have HK4 := hide hK4
    clear hP4 hK4 HP3 HK3 hB4 hb4 c0 c1 c2 c3 fr
    have e4 : ((i / 8 : Nat) : Int) = (i : Int) / 8 := by omega
    rw [e4] at Hnf
    clear e4
    go_wp2_with fail
    refine (unhide Hnf).mono ?_
    rintro e w5 ⟨rfl, hk5, hf5⟩
    go_wp2_with fail
    go_end0
    refine ⟨rfl, (unhide HP4).setFull hk5 hf5, (unhide HK4).trans hk5 (fun _ _ h => .inr (.inr h))⟩
end Go.Proofs.Qxb6616210a
