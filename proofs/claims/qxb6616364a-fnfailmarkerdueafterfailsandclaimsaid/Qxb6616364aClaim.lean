/-
  Claim (22).
-/
import Derived.Test.Qxb6616364aDead
namespace Go.Proofs.Qxb6616364a
open Go.RowKit Go.MuLone
set_option maxRecDepth 100000 in
set_option maxHeartbeats 4000000 in
theorem claim_core (b : Nat) (mf tmo fails fx rx now due : Int) (res : Bool) (r' : Int) (hdue : dueAt tmo fx rx = due) (hf : -4611686018427387904 ≤ fx ∧ fx ≤ 4611686018427387904) (hr : -4611686018427387904 ≤ rx ∧ rx ≤ 4611686018427387904) (ht : -4611686018427387904 ≤ tmo ∧ tmo ≤ 4611686018427387904) (w : World) (h : FM w b mf tmo 0 fails fx rx)
    (hq : (mf ≤ fails ∧ now < due ∧ res = false ∧ r' = rx) ∨ (mf ≤ fails ∧ ¬ now < due ∧ res = true ∧ r' = now) ∨ (¬ mf ≤ fails ∧ res = true ∧ r' = rx)) :
    Calls Try.prog 22 #[.pointer (some ⟨b, 0, none⟩), T now] w fun e w' => e = .returned (.bool res) ∧ FM w' b mf tmo 0 fails fx r' ∧ Below b w w' := by
  have hb : Below w.heap.size w (w.alloc (.cells #[.int .u64 (now % 1000000000), .int .i64 (now / 1000000000), .pointer none] 52)) := (Below.refl _ _).alloc (Nat.le_refl _) _
  have h1 := h.below hb
  have hlt := h.lt
  have Hb := hide (hb.mono (Nat.le_of_lt hlt))
  obtain ⟨c0, c1, c2, c4, c5, c6, c7, c8, c9, c10, c11⟩ := h1.cells
  have f2 := h1.free 2
  have Hl := hide (lock_free Try.muLib ⟨b, 2, none⟩ _ c2 f2)
  have HF := hide h1
  have Hd := hide (fun W h => dead_any b mf tmo 1 fails fx rx now hf hr ht W h)
  rw [hdue] at Hd
  unfold T at Hd
  clear h h1 hb c0 c1 c2 c4 c5 c6 c7 c8 c9 c10 c11 f2
  unfold T
  rcases hq with ⟨q, q2, rfl, rfl⟩ | ⟨q, q2, rfl, hr2⟩ | ⟨q, rfl, rfl⟩
  · have hd : decide (mf ≤ fails) = true := by simp [q]
    have hd2 : decide (now < due) = true := by simp [q2]
    rw [hd, hd2] at Hd
    simp only [Bool.and_true] at Hd
    go_enter_defers Try.func22, Try.ntmps22
    go_wp2_with fail
    refine (unhide Hl).mono ?_
    rintro e w1 ⟨rfl, rfl⟩
    have HF1 := hide ((unhide HF).setMu 1)
    have Hb1 := hide ((unhide Hb).setCell (p := ⟨b, 2, none⟩) (Nat.le_refl _) (.int .i32 1))
    have Hbox := hide (box_at w b (now % 1000000000) (now / 1000000000) hlt)
    generalize (w.alloc (.cells #[.int .u64 (now % 1000000000), .int .i64 (now / 1000000000), .pointer none] 52)).setCell ⟨b, 2, none⟩ (.int .i32 1) = w1 at *
    clear Hl HF Hb
    obtain ⟨n0, n1, n2⟩ := unhide Hbox
    go_wp2_with fail
    refine (unhide Hd _ (unhide HF1)).mono ?_
    rintro e w2 ⟨rfl, hk2⟩
    have HF2 := hide ((unhide HF1).below hk2)
    have Hb2 := hide ((unhide Hb1).trans (hk2.mono (Nat.le_of_lt (unhide HF1).lt)))
    have m0 := bcell hk2 n0
    have m1 := bcell hk2 n1
    have m2 := bcell hk2 n2
    clear hk2 HF1 Hb1 Hbox n0 n1 n2 Hd
    obtain ⟨c0, c1, c2, c4, c5, c6, c7, c8, c9, c10, c11⟩ := (unhide HF2).cells
    have f2 := (unhide HF2).free 2
    have f8 := (unhide HF2).free 8
    have f9 := (unhide HF2).free 9
    have f10 := (unhide HF2).free 10
    clear c1 c5 c6 c7
    have Ht := hide tell_any
    have fin : ∀ (W : World) (r : Int), FM W b mf tmo 1 fails fx r → Below b w W → FM (W.setCell ⟨b, 2, none⟩ (.int .i32 0)) b mf tmo 0 fails fx r ∧ Below b w (W.setCell ⟨b, 2, none⟩ (.int .i32 0)) := fun W r h1 h2 => ⟨h1.setMu 0, h2.setCell (p := ⟨b, 2, none⟩) (Nat.le_refl _) _⟩
    have Hfin := hide fin
    clear fin
    go_wp2_with fail
    refine leaves_cons (f := 28) (args := #[.pointer (some ⟨b, 2, none⟩)]) (by simp) (by simp [go_sem]) ?_
    refine (unlock_deferred Try.muLib ⟨b, 2, none⟩ .returning _ (by simpa using c2) (by simpa using f2)).mono ?_
    rintro e u' w'' ⟨rfl, rfl, rfl⟩
    exact ⟨_, results_tmp rfl _ _ _, rfl, unhide Hfin _ _ (unhide HF2) (unhide Hb2)⟩
  · have hr3 := hr2.symm
    subst hr3
    have hd : decide (mf ≤ fails) = true := by simp [q]
    have hd2 : decide (now < due) = false := by simp [q2]
    rw [hd, hd2] at Hd
    simp only [Bool.and_false] at Hd
    go_enter_defers Try.func22, Try.ntmps22
    go_wp2_with fail
    refine (unhide Hl).mono ?_
    rintro e w1 ⟨rfl, rfl⟩
    have HF1 := hide ((unhide HF).setMu 1)
    have Hb1 := hide ((unhide Hb).setCell (p := ⟨b, 2, none⟩) (Nat.le_refl _) (.int .i32 1))
    have Hbox := hide (box_at w b (now % 1000000000) (now / 1000000000) hlt)
    generalize (w.alloc (.cells #[.int .u64 (now % 1000000000), .int .i64 (now / 1000000000), .pointer none] 52)).setCell ⟨b, 2, none⟩ (.int .i32 1) = w1 at *
    clear Hl HF Hb
    obtain ⟨n0, n1, n2⟩ := unhide Hbox
    go_wp2_with fail
    refine (unhide Hd _ (unhide HF1)).mono ?_
    rintro e w2 ⟨rfl, hk2⟩
    have HF2 := hide ((unhide HF1).below hk2)
    have Hb2 := hide ((unhide Hb1).trans (hk2.mono (Nat.le_of_lt (unhide HF1).lt)))
    have m0 := bcell hk2 n0
    have m1 := bcell hk2 n1
    have m2 := bcell hk2 n2
    clear hk2 HF1 Hb1 Hbox n0 n1 n2 Hd
    obtain ⟨c0, c1, c2, c4, c5, c6, c7, c8, c9, c10, c11⟩ := (unhide HF2).cells
    have f2 := (unhide HF2).free 2
    have f8 := (unhide HF2).free 8
    have f9 := (unhide HF2).free 9
    have f10 := (unhide HF2).free 10
    clear c1 c5 c6 c7
    have Ht := hide tell_any
    have fin : ∀ (W : World) (r : Int), FM W b mf tmo 1 fails fx r → Below b w W → FM (W.setCell ⟨b, 2, none⟩ (.int .i32 0)) b mf tmo 0 fails fx r ∧ Below b w (W.setCell ⟨b, 2, none⟩ (.int .i32 0)) := fun W r h1 h2 => ⟨h1.setMu 0, h2.setCell (p := ⟨b, 2, none⟩) (Nat.le_refl _) _⟩
    have Hfin := hide fin
    clear fin
    go_upto_region 5 with fail
    go_quiet (fail)
    go_upto_region 7 with fail
    have hfd : FM (w2.drewN nq) b mf tmo 1 fails fx rx := unhide HF2
    refine wp_forget (fun W => FM W b mf tmo 1 fails fx now ∧ Below b w W) ⟨hfd.setRetrial now, ((Below.setCell (below_drewN (unhide Hb2) _) (p := ⟨b, 8, none⟩) (Nat.le_refl _) _).setCell (p := ⟨b, 9, none⟩) (Nat.le_refl _) _).setCell (p := ⟨b, 10, none⟩) (Nat.le_refl _) _⟩ ?_
    clear hfd
    rintro w3 ⟨hF3, hb3⟩
    have HF3 := hide hF3
    have Hb3 := hide hb3
    clear hF3 hb3 HF2 Hb2 c0 c2 c4 c8 c9 c10 c11 f2 f8 f9 f10 m0 m1 m2
    obtain ⟨c0, c1, c2, c4, c5, c6, c7, c8, c9, c10, c11⟩ := (unhide HF3).cells
    have f2 := (unhide HF3).free 2
    clear c0 c1 c4 c5 c6 c7 c8 c9 c10
    go_wp2_with fail
    refine (unhide Ht _).mono ?_
    rintro e w4 ⟨rfl, rfl⟩
    go_wp2_with fail
    refine leaves_cons (f := 28) (args := #[.pointer (some ⟨b, 2, none⟩)]) (by simp) (by simp [go_sem]) ?_
    refine (unlock_deferred Try.muLib ⟨b, 2, none⟩ .returning _ (by simpa using c2) (by simpa using f2)).mono ?_
    rintro e u' w'' ⟨rfl, rfl, rfl⟩
    exact ⟨_, results_tmp rfl _ _ _, rfl, unhide Hfin _ _ (unhide HF3) (unhide Hb3)⟩
  · have hd : decide (mf ≤ fails) = false := by simp [q]
    rw [hd] at Hd
    simp only [Bool.false_and] at Hd
    go_enter_defers Try.func22, Try.ntmps22
    go_wp2_with fail
    refine (unhide Hl).mono ?_
    rintro e w1 ⟨rfl, rfl⟩
    have HF1 := hide ((unhide HF).setMu 1)
    have Hb1 := hide ((unhide Hb).setCell (p := ⟨b, 2, none⟩) (Nat.le_refl _) (.int .i32 1))
    have Hbox := hide (box_at w b (now % 1000000000) (now / 1000000000) hlt)
    generalize (w.alloc (.cells #[.int .u64 (now % 1000000000), .int .i64 (now / 1000000000), .pointer none] 52)).setCell ⟨b, 2, none⟩ (.int .i32 1) = w1 at *
    clear Hl HF Hb
    obtain ⟨n0, n1, n2⟩ := unhide Hbox
    go_wp2_with fail
    refine (unhide Hd _ (unhide HF1)).mono ?_
    rintro e w2 ⟨rfl, hk2⟩
    have HF2 := hide ((unhide HF1).below hk2)
    have Hb2 := hide ((unhide Hb1).trans (hk2.mono (Nat.le_of_lt (unhide HF1).lt)))
    have m0 := bcell hk2 n0
    have m1 := bcell hk2 n1
    have m2 := bcell hk2 n2
    clear hk2 HF1 Hb1 Hbox n0 n1 n2 Hd
    obtain ⟨c0, c1, c2, c4, c5, c6, c7, c8, c9, c10, c11⟩ := (unhide HF2).cells
    have f2 := (unhide HF2).free 2
    have f8 := (unhide HF2).free 8
    have f9 := (unhide HF2).free 9
    have f10 := (unhide HF2).free 10
    clear c1 c5 c6 c7
    have Ht := hide tell_any
    have fin : ∀ (W : World) (r : Int), FM W b mf tmo 1 fails fx r → Below b w W → FM (W.setCell ⟨b, 2, none⟩ (.int .i32 0)) b mf tmo 0 fails fx r ∧ Below b w (W.setCell ⟨b, 2, none⟩ (.int .i32 0)) := fun W r h1 h2 => ⟨h1.setMu 0, h2.setCell (p := ⟨b, 2, none⟩) (Nat.le_refl _) _⟩
    have Hfin := hide fin
    clear fin
    go_upto_region 5 with fail
    go_quiet (fail)
    go_wp2_with fail
    refine leaves_cons (f := 28) (args := #[.pointer (some ⟨b, 2, none⟩)]) (by simp) (by simp [go_sem]) ?_
    refine (unlock_deferred Try.muLib ⟨b, 2, none⟩ .returning _ (by simpa using c2) (by simpa using f2)).mono ?_
    rintro e u' w'' ⟨rfl, rfl, rfl⟩
    exact ⟨_, results_tmp rfl _ _ _, rfl, unhide Hfin _ _ (by exact (unhide HF2)) (below_drewN (unhide Hb2) _)⟩
theorem claim_any (b : Nat) (mf tmo fails fx rx now : Int) (hf : -4611686018427387904 ≤ fx ∧ fx ≤ 4611686018427387904) (hr : -4611686018427387904 ≤ rx ∧ rx ≤ 4611686018427387904) (ht : -4611686018427387904 ≤ tmo ∧ tmo ≤ 4611686018427387904) (w : World) (h : FM w b mf tmo 0 fails fx rx) :
    Calls Try.prog 22 #[.pointer (some ⟨b, 0, none⟩), T now] w fun e w' => e = .returned (.bool (!(decide (mf ≤ fails) && decide (now < dueAt tmo fx rx)))) ∧ FM w' b mf tmo 0 fails fx (if mf ≤ fails ∧ ¬ now < dueAt tmo fx rx then now else rx) ∧ Below b w w' := by
  refine claim_core b mf tmo fails fx rx now _ _ _ rfl hf hr ht w h ?_
  by_cases q : mf ≤ fails
  · by_cases q2 : now < dueAt tmo fx rx
    · exact .inl ⟨q, q2, by simp [q, q2], by simp [q2]⟩
    · exact .inr (.inl ⟨q, q2, by simp [q2], by rw [if_pos ⟨q, q2⟩]⟩)
  · exact .inr (.inr ⟨q, by simp [q], by rw [if_neg (fun e => q e.1)]⟩)
end Go.Proofs.Qxb6616364a
