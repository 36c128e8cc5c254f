/-
  THE WRAPPERS: zzAtB1 (21), zzNsB1 (23), NewFailMarker (19), ZZNewFailMarkerB1 (8), ZZFailB1 (9), ZZClaimB1 (10), ZZDueB1 (11); selB1InTime (7), selB1Max1 (12), zzBytes (6).
-/
import Derived.Test.Qxb6616364aClaim
namespace Go.Proofs.Qxb6616364a
open Go.RowKit Go.MuLone
set_option maxRecDepth 100000 in
set_option maxHeartbeats 1000000 in
theorem at_any (x : Int) (hx : -4611686018427387904 ≤ x ∧ x ≤ 4611686018427387904) (w : World) :
    Calls Try.prog 21 #[.int .i64 x] w fun e w' => e = .returned (T x) ∧ Below w.heap.size w w' := by
  have Ha := hide (fun w => tadd_any 0 x (by omega) hx w)
  rw [show (0 : Int) + x = x by omega] at Ha
  unfold T at *
  rw [show (0 : Int) % 1000000000 = 0 by rfl, show (0 : Int) / 1000000000 = 0 by rfl] at *
  go_enter Try.func21, Try.ntmps21
  go_wp2_with fail
  refine (unhide Ha _).mono ?_
  rintro e w1 ⟨rfl, hk⟩
  have r1 := row_keep hk (heap_alloc_new _ _)
  have t0 : w1.cell? ⟨w.heap.size, 0, none⟩ = some (.int .u64 0) := by rw [cell_of_row _ _ _ _ _ _ r1]; rfl
  have t1 : w1.cell? ⟨w.heap.size, 1, none⟩ = some (.int .i64 0) := by rw [cell_of_row _ _ _ _ _ _ r1]; rfl
  have t2 : w1.cell? ⟨w.heap.size, 2, none⟩ = some (.pointer none) := by rw [cell_of_row _ _ _ _ _ _ r1]; rfl
  have f0 : w1.frozen? ⟨w.heap.size, 0, none⟩ = false := frozen_of_row _ _ _ _ _ r1
  have f1 : w1.frozen? ⟨w.heap.size, 1, none⟩ = false := frozen_of_row _ _ _ _ _ r1
  have f2 : w1.frozen? ⟨w.heap.size, 2, none⟩ = false := frozen_of_row _ _ _ _ _ r1
  have hb : Below w.heap.size w w1 := Below.trans ((Below.refl _ _).alloc (Nat.le_refl _) _) (hk.mono (by simp))
  have HR := hide r1
  have HB := hide hb
  clear hk r1 hb Ha
  go_wp2_with fail
  refine bodyPost_ret (results_cell_row rfl _ _ w.heap.size 52 _ _ _ rfl (heap_s3 (unhide HR)) Try.underlying52 rfl size52) rfl ?_
  exact ⟨rfl, below_s3 (unhide HB) (Nat.le_refl _)⟩
set_option maxRecDepth 100000 in
set_option maxHeartbeats 1000000 in
theorem ns_any (x : Int) (hx : -4611686018427387904 ≤ x ∧ x ≤ 4611686018427387904) (w : World) :
    Calls Try.prog 23 #[T x] w fun e w' => e = .returned (.int .i64 x) ∧ Below w.heap.size w w' := by
  have Ha := hide (fun w => sub_any x (by omega) hx w)
  unfold T at *
  rw [show (0 : Int) % 1000000000 = 0 by rfl, show (0 : Int) / 1000000000 = 0 by rfl] at Ha
  go_enter Try.func23, Try.ntmps23
  go_wp2_with fail
  refine (unhide Ha _).mono ?_
  rintro e w1 ⟨rfl, hk⟩
  have HB := hide (Below.trans ((Below.refl _ w).alloc (Nat.le_refl _) _) (hk.mono (by simp)))
  clear hk Ha
  go_wp2_with fail
  go_ret
  exact ⟨rfl, unhide HB⟩
/-- The limit that counts. -/
def lim (mf : Int) : Int := if mf < 1 then 1 else mf
set_option maxRecDepth 100000 in
set_option maxHeartbeats 1000000 in
theorem new_any (mf tmo : Int) (w : World) :
    Calls Try.prog 19 #[.int .i64 mf, .int .i64 tmo] w fun e w' => e = .returned (.pointer (some ⟨w.heap.size, 0, none⟩)) ∧ FM w' w.heap.size (lim mf) tmo 0 0 0 0 ∧ Below w.heap.size w w' := by
  unfold lim
  by_cases q : mf < 1
  · rw [if_pos q]
    go_enter Try.func19, Try.ntmps19
    go_wp2_with fail
    go_ret
    exact ⟨rfl, heap_at _ _ _ rfl, (Below.refl _ _).alloc (Nat.le_refl _) _⟩
  · rw [if_neg q]
    go_enter Try.func19, Try.ntmps19
    go_wp2_with fail
    go_ret
    exact ⟨rfl, heap_at _ _ _ rfl, (Below.refl _ _).alloc (Nat.le_refl _) _⟩
set_option maxRecDepth 100000 in
theorem zznew_any (mf tmo : Int) (w : World) :
    Calls Try.prog 8 #[.int .i64 mf, .int .i64 tmo] w fun e w' => e = .returned (.pointer (some ⟨w.heap.size, 0, none⟩)) ∧ FM w' w.heap.size (lim mf) tmo 0 0 0 0 ∧ Below w.heap.size w w' := by
  have Ha := hide (new_any mf tmo w)
  go_enter Try.func8, Try.ntmps8
  go_wp2_with fail
  refine (unhide Ha).mono ?_
  rintro e w1 ⟨rfl, h1, h2⟩
  have H1 := hide h1
  have H2 := hide h2
  clear h1 h2
  go_wp2_with fail
  go_ret
  exact ⟨rfl, unhide H1, unhide H2⟩
set_option maxRecDepth 100000 in
theorem zzfail_any (b : Nat) (mf tmo fails fx rx now : Int) (hfl : 0 ≤ fails ∧ fails ≤ 4611686018427387904) (hn : -4611686018427387904 ≤ now ∧ now ≤ 4611686018427387904) (w : World) (h : FM w b mf tmo 0 fails fx rx) :
    Calls Try.prog 9 #[.pointer (some ⟨b, 0, none⟩), .int .i64 now] w fun e w' => e = .returned (.tuple #[]) ∧ FM w' b mf tmo 0 (fails + 1) now 0 ∧ Below b w w' := by
  have Ha := hide (at_any now hn w)
  have Hf := hide (fun w h => fail_any b mf tmo fails fx rx now hfl w h)
  have HF := hide h
  have hlt := h.lt
  clear h
  unfold T at *
  go_enter Try.func9, Try.ntmps9
  go_wp2_with fail
  refine (unhide Ha).mono ?_
  rintro e w1 ⟨rfl, hk⟩
  have HF1 := hide ((unhide HF).below hk)
  have HB := hide (hk.mono (Nat.le_of_lt hlt))
  clear hk
  go_wp2_with fail
  refine (unhide Hf _ (unhide HF1)).mono ?_
  rintro e w2 ⟨rfl, h1, h2⟩
  have H1 := hide h1
  have H2 := hide ((unhide HB).trans h2)
  clear h1 h2
  go_wp2_with fail
  go_end0
  exact ⟨rfl, unhide H1, unhide H2⟩
set_option maxRecDepth 100000 in
theorem zzclaim_any (b : Nat) (mf tmo fails fx rx now : Int) (hf : -4611686018427387904 ≤ fx ∧ fx ≤ 4611686018427387904) (hr : -4611686018427387904 ≤ rx ∧ rx ≤ 4611686018427387904) (ht : -4611686018427387904 ≤ tmo ∧ tmo ≤ 4611686018427387904) (hn : -4611686018427387904 ≤ now ∧ now ≤ 4611686018427387904) (w : World) (h : FM w b mf tmo 0 fails fx rx) :
    Calls Try.prog 10 #[.pointer (some ⟨b, 0, none⟩), .int .i64 now] w fun e w' => e = .returned (.bool (!(decide (mf ≤ fails) && decide (now < dueAt tmo fx rx)))) ∧ FM w' b mf tmo 0 fails fx (if mf ≤ fails ∧ ¬ now < dueAt tmo fx rx then now else rx) ∧ Below b w w' := by
  have Ha := hide (at_any now hn w)
  have Hf := hide (fun w h => claim_any b mf tmo fails fx rx now hf hr ht w h)
  have HF := hide h
  have hlt := h.lt
  clear h
  unfold T at *
  generalize (!(decide (mf ≤ fails) && decide (now < dueAt tmo fx rx))) = res at *
  generalize (if mf ≤ fails ∧ ¬ now < dueAt tmo fx rx then now else rx) = r2 at *
  go_enter Try.func10, Try.ntmps10
  go_wp2_with fail
  refine (unhide Ha).mono ?_
  rintro e w1 ⟨rfl, hk⟩
  have HF1 := hide ((unhide HF).below hk)
  have HB := hide (hk.mono (Nat.le_of_lt hlt))
  clear hk
  go_wp2_with fail
  refine (unhide Hf _ (unhide HF1)).mono ?_
  rintro e w2 ⟨rfl, h1, h2⟩
  have H1 := hide h1
  have H2 := hide ((unhide HB).trans h2)
  clear h1 h2
  go_wp2_with fail
  go_ret
  exact ⟨rfl, unhide H1, unhide H2⟩
set_option maxRecDepth 100000 in
theorem zzdue_any (b : Nat) (mf tmo mu fails fx rx : Int) (hf : -2305843009213693952 ≤ fx ∧ fx ≤ 2305843009213693952) (hr : -2305843009213693952 ≤ rx ∧ rx ≤ 2305843009213693952) (ht : -2305843009213693952 ≤ tmo ∧ tmo ≤ 2305843009213693952) (w : World) (h : FM w b mf tmo mu fails fx rx) :
    Calls Try.prog 11 #[.pointer (some ⟨b, 0, none⟩)] w fun e w' => e = .returned (.int .i64 (dueAt tmo fx rx)) ∧ Below w.heap.size w w' := by
  have hd : -4611686018427387904 ≤ dueAt tmo fx rx ∧ dueAt tmo fx rx ≤ 4611686018427387904 := by unfold dueAt; split <;> omega
  have Ha := hide (due_any b mf tmo mu fails fx rx (by omega) (by omega) (by omega) w h)
  have Hn := hide (fun w => ns_any (dueAt tmo fx rx) hd w)
  clear h
  generalize dueAt tmo fx rx = d at *
  unfold T at *
  go_enter Try.func11, Try.ntmps11
  go_wp2_with fail
  refine (unhide Ha).mono ?_
  rintro e w1 ⟨rfl, hk⟩
  have HB := hide hk
  clear hk
  go_wp2_with fail
  refine (unhide Hn _).mono ?_
  rintro e w2 ⟨rfl, hk2⟩
  have H2 := hide ((unhide HB).trans (hk2.mono (unhide HB).size))
  clear hk2
  go_wp2_with fail
  go_ret
  exact ⟨rfl, unhide H2⟩
set_option maxRecDepth 100000 in
theorem inTime_any (x : Int) (w : World) :
    Calls Try.prog 7 #[.int .i64 x] w fun e w' => e = .returned (.bool (decide (-2305843009213693952 ≤ x ∧ x ≤ 2305843009213693952))) ∧ w' = w := by
  by_cases q : -2305843009213693952 ≤ x
  · by_cases q2 : x ≤ 2305843009213693952
    all_goals
      go_enter Try.func7, Try.ntmps7
      go_wp2_with fail
      go_ret
      exact ⟨by simp [q, q2], rfl⟩
  · go_enter Try.func7, Try.ntmps7
    go_wp2_with fail
    go_ret
    exact ⟨by simp; omega, rfl⟩
set_option maxRecDepth 100000 in
theorem max1_any (x : Int) (w : World) : Calls Try.prog 12 #[.int .i64 x] w fun e w' => e = .returned (.int .i64 (lim x)) ∧ w' = w := by
  unfold lim
  by_cases q : x < 1
  · rw [if_pos q]
    go_enter Try.func12, Try.ntmps12
    go_wp2_with fail
    go_ret
    exact ⟨rfl, rfl⟩
  · rw [if_neg q]
    go_enter Try.func12, Try.ntmps12
    go_wp2_with fail
    go_ret
    exact ⟨rfl, rfl⟩
set_option maxRecDepth 100000 in
theorem bytes_any (m t c : Int) (a : Option Addr) (len cap : Nat) (hl : len ≤ 9223372036854775807) (w : World) :
    Calls Try.prog 6 #[.int .i64 m, .int .i64 t, .slice a len cap, .int .i64 c] w fun e w' => e = .returned (.bool (decide (len ≤ 1048576))) ∧ w' = w := by
  by_cases h : len ≤ 1048576
  all_goals
    go_enter Try.func6, Try.ntmps6
    go_wp2_with fail
    go_ret
    exact ⟨by simp [h], rfl⟩
end Go.Proofs.Qxb6616364a
