/-
  dead (31), Fail (20), Claim (22).
-/
import Derived.Test.Qxb6616364aFm
import Derived.WalkSmall
namespace Go.Proofs.Qxb6616364a
open Go.RowKit Go.MuLone
section
variable {w W W' : World} {b t : Nat} {mf tmo mu fails fx rx : Int} {v0 v1 v2 v3 v4 : Value}
theorem heldD (h : W.cell? ⟨b, 4, none⟩ = some v0 ∧ W.cell? ⟨b, 0, none⟩ = some v1 ∧ W.cell? ⟨t, 0, none⟩ = some v2 ∧ W.cell? ⟨t, 1, none⟩ = some v3 ∧ W.cell? ⟨t, 2, none⟩ = some v4 ∧ Hid (FM W b mf tmo mu fails fx rx ∧ Below w.heap.size w W)) (hk : Below W.heap.size W W') :
    W'.cell? ⟨b, 4, none⟩ = some v0 ∧ W'.cell? ⟨b, 0, none⟩ = some v1 ∧ W'.cell? ⟨t, 0, none⟩ = some v2 ∧ W'.cell? ⟨t, 1, none⟩ = some v3 ∧ W'.cell? ⟨t, 2, none⟩ = some v4 ∧ Hid (FM W' b mf tmo mu fails fx rx ∧ Below w.heap.size w W') := by
  obtain ⟨h1, h2, h3, h4, h5, h6, h7⟩ := h
  exact ⟨bcell hk h1, bcell hk h2, bcell hk h3, bcell hk h4, bcell hk h5, h6.below hk, h7.trans (hk.mono h7.size)⟩
theorem startD (w : World) (h : FM w b mf tmo mu fails fx rx) (nz ns : Int) :
    (w.alloc (.cells #[.int .u64 nz, .int .i64 ns, .pointer none] 52)).cell? ⟨b, 4, none⟩ = some (.int .i64 fails) ∧ (w.alloc (.cells #[.int .u64 nz, .int .i64 ns, .pointer none] 52)).cell? ⟨b, 0, none⟩ = some (.int .i64 mf) ∧ (w.alloc (.cells #[.int .u64 nz, .int .i64 ns, .pointer none] 52)).cell? ⟨w.heap.size, 0, none⟩ = some (.int .u64 nz) ∧ (w.alloc (.cells #[.int .u64 nz, .int .i64 ns, .pointer none] 52)).cell? ⟨w.heap.size, 1, none⟩ = some (.int .i64 ns) ∧ (w.alloc (.cells #[.int .u64 nz, .int .i64 ns, .pointer none] 52)).cell? ⟨w.heap.size, 2, none⟩ = some (.pointer none) ∧
      Hid (FM (w.alloc (.cells #[.int .u64 nz, .int .i64 ns, .pointer none] 52)) b mf tmo mu fails fx rx ∧ Below w.heap.size w (w.alloc (.cells #[.int .u64 nz, .int .i64 ns, .pointer none] 52))) := by
  have hb : Below w.heap.size w (w.alloc (.cells #[.int .u64 nz, .int .i64 ns, .pointer none] 52)) := (Below.refl _ _).alloc (Nat.le_refl _) _
  obtain ⟨c0, c1, c2, c4, _⟩ := h.cells
  exact ⟨bcell hb c4, bcell hb c0, by simp [go_sem], by simp [go_sem], by simp [go_sem], h.below hb, hb⟩
end
set_option maxRecDepth 100000 in
set_option maxHeartbeats 1000000 in
theorem dead_any (b : Nat) (mf tmo mu fails fx rx now : Int) (hf : -4611686018427387904 ≤ fx ∧ fx ≤ 4611686018427387904) (hr : -4611686018427387904 ≤ rx ∧ rx ≤ 4611686018427387904) (ht : -4611686018427387904 ≤ tmo ∧ tmo ≤ 4611686018427387904) (w : World) (h : FM w b mf tmo mu fails fx rx) :
    Calls Try.prog 31 #[.pointer (some ⟨b, 0, none⟩), T now] w fun e w' => e = .returned (.bool (decide (mf ≤ fails) && decide (now < dueAt tmo fx rx))) ∧ Below w.heap.size w w' := by
  have Hdue := hide (fun W h => due_any b mf tmo mu fails fx rx hf hr ht W h)
  have Hbef := hide (fun W => before_any now (dueAt tmo fx rx) W)
  have HS := hide (startD w h (now % 1000000000) (now / 1000000000))
  clear h
  generalize dueAt tmo fx rx = due at *
  unfold T at *
  generalize now % 1000000000 = nz at *
  generalize now / 1000000000 = ns at *
  generalize due % 1000000000 = dz at *
  generalize due / 1000000000 = ds at *
  by_cases q : mf ≤ fails
  · have hd : decide (mf ≤ fails) = true := by simp [q]
    go_enter Try.func31, Try.ntmps31
    go_upto_region 1 with fail
    generalize w.alloc (.cells #[.int .u64 nz, .int .i64 ns, .pointer none] 52) = w1 at *
    go_region_held3 (fun W => W.cell? ⟨b, 4, none⟩ = some (.int .i64 fails) ∧ W.cell? ⟨b, 0, none⟩ = some (.int .i64 mf) ∧ W.cell? ⟨w.heap.size, 0, none⟩ = some (.int .u64 nz) ∧ W.cell? ⟨w.heap.size, 1, none⟩ = some (.int .i64 ns) ∧ W.cell? ⟨w.heap.size, 2, none⟩ = some (.pointer none) ∧ Hid (FM W b mf tmo mu fails fx rx ∧ Below w.heap.size w W))
      (first | exact heldD (unhide HS) (below_drew' _) | assumption | exact heldD ‹_› (unhide ‹_›) | exact heldD (unhide HS) (Below.refl _ _))
      (first | (go_at_call 24; refine (unhide Hdue _ (unhide (by assumption : _ ∧ _ ∧ _ ∧ _ ∧ _ ∧ Hid (FM _ b mf tmo mu fails fx rx ∧ Below w.heap.size w _)).2.2.2.2.2).1).mono ?_; rintro e w5 ⟨rfl, hk5⟩; have HK5 := hide hk5; clear hk5) | (go_at_call 46; refine (unhide Hbef _).mono ?_; rintro e w6 ⟨rfl, hk6⟩; have HK6 := hide hk6; clear hk6))
    have hB : Hid (FM w6 b mf tmo mu fails fx rx ∧ Below w.heap.size w w6) := (by assumption : w6.cell? ⟨b, 4, none⟩ = some (.int .i64 fails) ∧ w6.cell? ⟨b, 0, none⟩ = some (.int .i64 mf) ∧ w6.cell? ⟨w.heap.size, 0, none⟩ = some (.int .u64 nz) ∧ w6.cell? ⟨w.heap.size, 1, none⟩ = some (.int .i64 ns) ∧ w6.cell? ⟨w.heap.size, 2, none⟩ = some (.pointer none) ∧ Hid (FM w6 b mf tmo mu fails fx rx ∧ Below w.heap.size w w6)).2.2.2.2.2
    go_wp2_with fail
    go_ret
    exact ⟨by simp [q], (unhide hB).2⟩
  · have hd : decide (mf ≤ fails) = false := by simp [q]
    go_enter Try.func31, Try.ntmps31
    go_upto_region 1 with fail
    generalize w.alloc (.cells #[.int .u64 nz, .int .i64 ns, .pointer none] 52) = w1 at *
    obtain ⟨c4, c0, n0, n1, n2, HB⟩ := unhide HS
    go_quiet (fail)
    go_wp2_with fail
    go_ret
    exact ⟨by simp, below_drewN (unhide HB).2 _⟩
section
variable {w : World} {b : Nat} {mf tmo mu fails fx rx : Int}
theorem FM.setMu (h : FM w b mf tmo mu fails fx rx) (v : Int) : FM (w.setCell ⟨b, 2, none⟩ (.int .i32 v)) b mf tmo v fails fx rx := by
  unfold FM at *
  rw [heap_setCell_same _ _ _ _ _ _ h]
  rfl
theorem FM.setFails (h : FM w b mf tmo mu fails fx rx) (v : Int) : FM (w.setCell ⟨b, 4, none⟩ (.int .i64 v)) b mf tmo mu v fx rx := by
  unfold FM at *
  rw [heap_setCell_same _ _ _ _ _ _ h]
  rfl
theorem FM.setFailed (h : FM w b mf tmo mu fails fx rx) (v : Int) : FM (((w.setCell ⟨b, 5, none⟩ (.int .u64 (v % 1000000000))).setCell ⟨b, 6, none⟩ (.int .i64 (v / 1000000000))).setCell ⟨b, 7, none⟩ (.pointer none)) b mf tmo mu fails v rx := by
  unfold FM at *
  rw [heap_setCell_same _ _ _ _ _ _ (heap_setCell_same _ _ _ _ _ _ (heap_setCell_same _ _ _ _ _ _ h))]
  rfl
theorem FM.setRetrial (h : FM w b mf tmo mu fails fx rx) (v : Int) : FM (((w.setCell ⟨b, 8, none⟩ (.int .u64 (v % 1000000000))).setCell ⟨b, 9, none⟩ (.int .i64 (v / 1000000000))).setCell ⟨b, 10, none⟩ (.pointer none)) b mf tmo mu fails fx v := by
  unfold FM at *
  rw [heap_setCell_same _ _ _ _ _ _ (heap_setCell_same _ _ _ _ _ _ (heap_setCell_same _ _ _ _ _ _ h))]
  rfl
end
theorem wp_forget {P : Program} {c : Code} {Q : Exit → Act → World → Prop} {a : Act} {w : World} (S : World → Prop) (h : S w) (k : ∀ w', S w' → Code.wp P c Q a w') : Code.wp P c Q a w := k w h
theorem box_at (w : World) (b : Nat) (z s : Int) (hb : b < w.heap.size) : ((w.alloc (.cells #[.int .u64 z, .int .i64 s, .pointer none] 52)).setCell ⟨b, 2, none⟩ (.int .i32 1)).cell? ⟨w.heap.size, 0, none⟩ = some (.int .u64 z) ∧ ((w.alloc (.cells #[.int .u64 z, .int .i64 s, .pointer none] 52)).setCell ⟨b, 2, none⟩ (.int .i32 1)).cell? ⟨w.heap.size, 1, none⟩ = some (.int .i64 s) ∧ ((w.alloc (.cells #[.int .u64 z, .int .i64 s, .pointer none] 52)).setCell ⟨b, 2, none⟩ (.int .i32 1)).cell? ⟨w.heap.size, 2, none⟩ = some (.pointer none) := by
  have h : ((w.alloc (.cells #[.int .u64 z, .int .i64 s, .pointer none] 52)).setCell ⟨b, 2, none⟩ (.int .i32 1)).heap[w.heap.size]? = some (.cells #[.int .u64 z, .int .i64 s, .pointer none] 52) := by
    rw [heap_setCell_other _ _ _ _ (by simp only; omega)]
    exact heap_alloc_new _ _
  refine ⟨?_, ?_, ?_⟩ <;> (rw [cell_of_row _ _ _ _ _ _ h]; rfl)
set_option maxRecDepth 100000 in
set_option maxHeartbeats 1000000 in
theorem fail_any (b : Nat) (mf tmo fails fx rx now : Int) (hfl : 0 ≤ fails ∧ fails ≤ 4611686018427387904) (w : World) (h : FM w b mf tmo 0 fails fx rx) :
    Calls Try.prog 20 #[.pointer (some ⟨b, 0, none⟩), T now] w fun e w' => e = .returned (.tuple #[]) ∧ FM w' b mf tmo 0 (fails + 1) now 0 ∧ Below b w w' := by
  have hb : Below w.heap.size w (w.alloc (.cells #[.int .u64 (now % 1000000000), .int .i64 (now / 1000000000), .pointer none] 52)) := (Below.refl _ _).alloc (Nat.le_refl _) _
  have h1 := h.below hb
  have hlt := h.lt
  have Hb := hide (hb.mono (Nat.le_of_lt hlt))
  obtain ⟨c0, c1, c2, c4, c5, c6, c7, c8, c9, c10, c11⟩ := h1.cells
  have f2 := h1.free 2
  have Hl := hide (lock_free Try.muLib ⟨b, 2, none⟩ _ c2 f2)
  have HF := hide h1
  clear h h1 hb c0 c1 c2 c4 c5 c6 c7 c8 c9 c10 c11 f2
  unfold T
  go_enter_defers Try.func20, Try.ntmps20
  go_wp2_with fail
  refine (unhide Hl).mono ?_
  rintro e w1 ⟨rfl, rfl⟩
  have HF1 := hide ((unhide HF).setMu 1)
  have Hb1 := hide ((unhide Hb).setCell (p := ⟨b, 2, none⟩) (Nat.le_refl _) (.int .i32 1))
  have Hbox := hide (box_at w b (now % 1000000000) (now / 1000000000) hlt)
  generalize (w.alloc (.cells #[.int .u64 (now % 1000000000), .int .i64 (now / 1000000000), .pointer none] 52)).setCell ⟨b, 2, none⟩ (.int .i32 1) = w1 at *
  clear Hl HF Hb
  obtain ⟨n0, n1, n2⟩ := unhide Hbox
  obtain ⟨c0, c1, c2, c4, c5, c6, c7, c8, c9, c10, c11⟩ := (unhide HF1).cells
  have f4 := (unhide HF1).free 4
  have f5 := (unhide HF1).free 5
  have f6 := (unhide HF1).free 6
  have f7 := (unhide HF1).free 7
  have f8 := (unhide HF1).free 8
  have f9 := (unhide HF1).free 9
  have f10 := (unhide HF1).free 10
  have hne : ¬ b = w.heap.size := by omega
  have hne2 : ¬ w.heap.size = b := by omega
  go_upto_region 6 with fail
  refine wp_forget (fun W => FM W b mf tmo 1 (fails + 1) now 0 ∧ Below b w W) ⟨(((unhide HF1).setFails (fails + 1)).setFailed now).setRetrial 0, ?_⟩ ?_
  · exact ((((((Below.setCell (unhide Hb1) (p := ⟨b, 4, none⟩) (Nat.le_refl _) _).setCell (p := ⟨b, 5, none⟩) (Nat.le_refl _) _).setCell (p := ⟨b, 6, none⟩) (Nat.le_refl _) _).setCell (p := ⟨b, 7, none⟩) (Nat.le_refl _) _).setCell (p := ⟨b, 8, none⟩) (Nat.le_refl _) _).setCell (p := ⟨b, 9, none⟩) (Nat.le_refl _) _).setCell (p := ⟨b, 10, none⟩) (Nat.le_refl _) _
  rintro w2 ⟨hF2, hb2⟩
  have HF2 := hide hF2
  have Hb2 := hide hb2
  clear hF2 hb2 HF1 Hb1 Hbox n0 n1 n2 c0 c1 c2 c4 c5 c6 c7 c8 c9 c10 c11 f4 f5 f6 f7 f8 f9 f10 hne hne2
  obtain ⟨c0, c1, c2, c4, c5, c6, c7, c8, c9, c10, c11⟩ := (unhide HF2).cells
  have f2 := (unhide HF2).free 2
  clear c1 c5 c6 c7 c8 c9 c10
  have Ht := hide tell_any
  have fin : ∀ W : World, FM W b mf tmo 1 (fails + 1) now 0 → Below b w W → FM (W.setCell ⟨b, 2, none⟩ (.int .i32 0)) b mf tmo 0 (fails + 1) now 0 ∧ Below b w (W.setCell ⟨b, 2, none⟩ (.int .i32 0)) := fun W h1 h2 => ⟨h1.setMu 0, h2.setCell (p := ⟨b, 2, none⟩) (Nat.le_refl _) _⟩
  have Hfin := hide fin
  clear fin
  by_cases q : mf ≤ fails + 1
  · have hd : decide (mf ≤ fails + 1) = true := by simp [q]
    go_quiet (fail)
    go_wp2_with fail
    refine (unhide Ht _).mono ?_
    rintro e w3 ⟨rfl, rfl⟩
    go_wp2_with fail
    refine leaves_cons (f := 28) (args := #[.pointer (some ⟨b, 2, none⟩)]) (by simp) (by simp [go_sem]) ?_
    refine (unlock_deferred Try.muLib ⟨b, 2, none⟩ .returning _ (by simpa using c2) (by simpa using f2)).mono ?_
    rintro e u' w'' ⟨rfl, rfl, rfl⟩
    exact ⟨_, results_none rfl _ _ _, rfl, unhide Hfin _ (by exact (unhide HF2)) (below_drewN (unhide Hb2) _)⟩
  · have hd : decide (mf ≤ fails + 1) = false := by simp [q]
    go_quiet (fail)
    go_wp2_with fail
    refine leaves_cons (f := 28) (args := #[.pointer (some ⟨b, 2, none⟩)]) (by simp) (by simp [go_sem]) ?_
    refine (unlock_deferred Try.muLib ⟨b, 2, none⟩ .returning _ (by simpa using c2) (by simpa using f2)).mono ?_
    rintro e u' w'' ⟨rfl, rfl, rfl⟩
    exact ⟨_, results_none rfl _ _ _, rfl, unhide Hfin _ (by exact (unhide HF2)) (below_drewN (unhide Hb2) _)⟩
end Go.Proofs.Qxb6616364a
