/-
  THE WALKS OF ZZnewPeer (20) AND ZZnewPicker (19).
-/
import Derived.Test.Qxb6616210aPk
namespace Go.Proofs.Qxb6616210a
open Go.RowKit Go.Lib
attribute [local go_sem ↓] Go.wp_at_zero Go.wp_at_succ
def PeerPost (n mb : Nat) (w : World) (e : Ending) (w' : World) : Prop :=
  ∃ b bb bfu, e = .returned (.pointer (some ⟨b, 0, none⟩)) ∧ PeerAt w' b bb bfu mb n (fun _ => false) 0 0 ∧ Kept (fun _ => False) w w' ∧ w.heap.size ≤ b ∧ w.heap.size ≤ bb ∧ w.heap.size ≤ bfu
theorem krow_full {w : World} {b nf : Nat} (h : KRow .u64 22 w b nf (fun _ => 0)) : FullAt w b nf :=
  ⟨_, h, krow_size _ _ _, fun _ hi => ⟨_, krow_get _ _ hi⟩⟩
set_option maxRecDepth 100000 in
set_option maxHeartbeats 1000000 in
theorem newPeer_any (n mb : Nat) (hn : n ≤ 65536) (w : World) (hm : w.heap[mb]? = some (.map #[] 0)) :
    Calls Try.prog 20 #[.int .i64 n, .map (some mb)] w (PeerPost n mb w) := by
  have HN := hide (fun w => bnew_any n hn w)
  have HM := hide hm
  clear hm
  go_enter Try.func20, Try.ntmps20
  go_wp2_with fail
  refine (unhide HN _).mono ?_
  rintro e w1 ⟨bb, bfu, rfl, k1, l1, l2, l3, hB, hF⟩
  have Hall := hide (show Kept (fun _ => False) w w1 ∧ w.heap.size ≤ bb ∧ w.heap.size ≤ bfu ∧ bb ≠ bfu ∧ KRow .u8 5 w1 bb (nbs n) (fun _ => 0) ∧ KRow .u64 22 w1 bfu (nfs n) (fun _ => 0) from ⟨k1, l1, l2, l3, hB, hF⟩)
  clear k1 l1 l2 l3 hB hF
  unfold bf
  go_wp2_with fail
  go_ret
  obtain ⟨k1, l1, l2, l3, hB, hF⟩ := unhide Hall
  have hbb := hB.lt
  have hbf := lt_of_some hF
  have hmb := lt_of_some (unhide HM)
  have hs := k1.size
  have kA : Kept (fun _ => False) w1 (w1.alloc (.cells (peerRow bb bfu n 0 mb 0) 70)) := (Kept.refl _ _).alloc _
  refine ⟨w1.heap.size, bb, bfu, rfl, ⟨heap_at _ _ _ rfl, ⟨_, hB.keep kA id, BitsOf.zero n⟩, (krow_full hF).keep kA id, kA.at (k1.at (unhide HM) id) id, ⟨by omega, by omega, by omega, l3, by omega, by omega⟩⟩, k1.trans kA (fun _ _ h => h), hs, l1, l2⟩

def PickPost (n S : Nat) (w : World) (e : Ending) (w' : World) : Prop :=
  ∃ (K : Blk) (p' q : Nat → Nat) (S' : Nat), e = .returned (.pointer (some ⟨K.pk, 0, none⟩)) ∧ Shuf (n - 1) (fun i => i) S p' S' ∧ Bij n p' q ∧ PkAt w' K n (newR n p' q S') ∧ Kept (fun _ => False) w w' ∧
    w.heap.size ≤ K.pk ∧ w.heap.size ≤ K.hb ∧ w.heap.size ≤ K.br ∧ w.heap.size ≤ K.bR ∧ w.heap.size ≤ K.bp ∧ w.heap.size ≤ K.bo ∧ w.heap.size ≤ K.bq ∧ w.heap.size ≤ K.bg ∧ w.heap.size ≤ K.bs
set_option maxRecDepth 100000 in
set_option maxHeartbeats 1000000 in
theorem newPicker_any (n s1 s2 : Nat) (hn : n ≤ 65536) (h1 : s1 < 18446744073709551616) (h2 : s2 < 18446744073709551616) (w : World) :
    Calls Try.prog 19 #[.int .i64 n, .int .u64 s1, .int .u64 s2] w (PickPost n (s1 * 18446744073709551616 + s2) w) := by
  have HN := hide (fun w => bnew_any n hn w)
  have c1 := hide (newPCG_any s1 s2 w)
  have c2 := hide (new_any w.heap.size (w.alloc (.cells #[.int .u64 s1, .int .u64 s2] 78)))
  have hP : PcgAt ((w.alloc (.cells #[.int .u64 s1, .int .u64 s2] 78)).alloc (.cells #[.iface 52 (.pointer (some ⟨w.heap.size, 0, none⟩))] 76)) w.heap.size (s1 * 18446744073709551616 + s2) :=
    pcg_of h2 (heap_step (heap_at _ _ _ rfl) (by simp))
  have hR : RandAt ((w.alloc (.cells #[.int .u64 s1, .int .u64 s2] 78)).alloc (.cells #[.iface 52 (.pointer (some ⟨w.heap.size, 0, none⟩))] 76)) (w.heap.size + 1) w.heap.size :=
    heap_at _ _ _ (by simp)
  have k0 : Kept (fun _ => False) w ((w.alloc (.cells #[.int .u64 s1, .int .u64 s2] 78)).alloc (.cells #[.iface 52 (.pointer (some ⟨w.heap.size, 0, none⟩))] 76)) := ((Kept.refl _ _).alloc _).alloc _
  have l0 : ((w.alloc (.cells #[.int .u64 s1, .int .u64 s2] 78)).alloc (.cells #[.iface 52 (.pointer (some ⟨w.heap.size, 0, none⟩))] 76)).heap.size = w.heap.size + 2 := by simp
  have Hcr := hide (fun (W : World) hr hP => newRarity_any (w.heap.size + 1) w.heap.size (s1 * 18446744073709551616 + s2) n (by unfold Pcg.W128; omega) (by omega) (by omega) W hr hP)
  have H0 := hide (And.intro hP (And.intro hR (And.intro k0 l0)))
  clear hP hR k0 l0
  have hmm := @run_makeMap Try.prog
  go_enter Try.func19, Try.ntmps19
  go_wp2_with fail
  refine (unhide c1).mono ?_
  rintro e w1 ⟨rfl, rfl⟩
  go_wp2_with fail
  refine (unhide c2).mono ?_
  rintro e w1 ⟨rfl, rfl⟩
  generalize (w.alloc (.cells #[.int .u64 s1, .int .u64 s2] 78)).alloc (.cells #[.iface 52 (.pointer (some ⟨w.heap.size, 0, none⟩))] 76) = w0 at *
  clear c1 c2
  go_wp2_with fail
  refine (unhide HN _).mono ?_
  rintro e w1 ⟨hb, hfu, rfl, k1, l1, l2, l3, hB, hF⟩
  have H1 := hide (show Kept (fun _ => False) w0 w1 ∧ w0.heap.size ≤ hb ∧ KRow .u8 5 w1 hb (nbs n) (fun _ => 0) from ⟨k1, l1, hB⟩)
  clear k1 l1 l2 l3 hB hF
  unfold bf
  go_wp2_with fail
  refine (unhide HN _).mono ?_
  rintro e w2 ⟨ub, ufu, rfl, k2, l1, l2, l3, hB, hF⟩
  have H2 := hide k2
  clear k2 l1 l2 l3 hB hF
  unfold bf
  go_wp2_with fail
  refine (unhide HN _).mono ?_
  rintro e w3 ⟨fb, ffu, rfl, k3, l1, l2, l3, hB, hF⟩
  have H3 := hide k3
  clear k3 l1 l2 l3 hB hF
  unfold bf
  go_wp2_with fail
  obtain ⟨hP, hR, k0, l0⟩ := unhide H0
  obtain ⟨k1, lh, hB⟩ := unhide H1
  have k13 : Kept (fun _ => False) w1 (w3.alloc (.map #[] 0)) := ((unhide H2).trans (unhide H3) (fun _ _ h => h)).alloc _
  have k03 : Kept (fun _ => False) w0 (w3.alloc (.map #[] 0)) := k1.trans k13 (fun _ _ h => h)
  have HB := hide (hB.keep k13 id)
  have Hr := hide (unhide Hcr _ (hR.keep k03 id) (hP.keep k03 id))
  have Hk := hide (k0.trans k03 (fun _ _ h => h))
  have Hs := hide k03.size
  have Hlh := hide lh
  have Hl0 := hide l0
  have hbl := hide (hB.keep k13 id).lt
  clear hP hR k0 l0 k1 lh hB k13 k03 H0 H1 H2 H3 Hcr HN
  refine (unhide Hr).mono ?_
  rintro e w4 ⟨br, bo, bq, bg, bs, p', q, S', rfl, hsh, hbij, hRar, hK, l1, l2, l3, l4, l5⟩
  have H4 := hide (And.intro hsh (And.intro hbij (And.intro hRar (And.intro hK (And.intro l1 (And.intro l2 (And.intro l3 (And.intro l4 l5))))))))
  clear hsh hbij hRar hK l1 l2 l3 l4 l5 Hr
  go_wp2_with fail
  go_ret
  obtain ⟨hsh, hbij, hRar, hK, l1, l2, l3, l4, l5⟩ := unhide H4
  have hB := (unhide HB).keep hK (by have := unhide Hlh; have := unhide Hl0; omega)
  have lh := unhide Hlh
  have l0 := unhide Hl0
  have hs := unhide Hs
  have hb3 := unhide hbl
  have a1 := lt_of_some hRar.obj
  have a2 := lt_of_some hRar.pcg
  have a3 := hRar.order.lt
  have a4 := hRar.pos.lt
  have a5 := hRar.group.lt
  have a6 := hRar.start.lt
  have a7 := hB.lt
  have K4 : ∀ o : Obj, Kept (fun _ => False) w4 ((w4.alloc (.map #[] 0)).alloc o) := fun o => ((Kept.refl _ _).alloc _).alloc _
  have hpk : ∀ arr t, ((w4.alloc (.map #[] 0)).alloc (.cells arr t)).heap[w4.heap.size + 1]? = some (.cells arr t) := fun arr t => heap_at _ _ _ (by simp)
  have kw := unhide Hk
  have hw4 := hK.size
  refine ⟨⟨w4.heap.size + 1, hb, hfu, br, w.heap.size + 1, w.heap.size, bo, bq, bg, bs, 3⟩, p', q, S', rfl, hsh, hbij, ⟨?_, ?_, ?_, ?_, ?_, ?_, ?_, newR_inv hbij.1 hbij.2, rfl, ?_, ?_⟩, ?_, ?_, ?_, ?_, ?_, ?_, ?_, ?_, ?_, ?_⟩
  · rw [cell_of_row _ _ _ _ _ _ (hpk _ _)]; rfl
  · rw [cell_of_row _ _ _ _ _ _ (hpk _ _)]; rfl
  · rw [cell_of_row _ _ _ _ _ _ (hpk _ _)]; rfl
  · rw [cell_of_row _ _ _ _ _ _ (hpk _ _)]; rfl
  · rw [cell_of_row _ _ _ _ _ _ (hpk _ _)]; rfl
  · exact hB.keep (K4 _) id
  · exact hRar.keep (K4 _) ⟨id, id, id, id, id, id, id⟩
  · simp only
    omega
  · simp only
    omega
  · exact (kw.trans hK (fun i hi h => by omega)).trans (K4 _) (fun _ _ h => h)
  all_goals (simp only; omega)
end Go.Proofs.Qxb6616210a
