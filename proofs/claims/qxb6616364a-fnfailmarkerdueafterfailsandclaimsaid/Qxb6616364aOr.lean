/-
  Sub (32) OF package time, cmp.Or (33).
-/
import Derived.Test.Qxb6616364aCmp
import Derived.LoopN
import Derived.Deep.RegionHeld3
import Derived.Laws.Pointers
namespace Go.Proofs.Qxb6616364a
open Go.RowKit Go.MuLone
theorem tell_any (w : World) : Calls Try.prog 29 #[.slice none 0 0] w fun e w' => e = .returned (.tuple #[]) ∧ w' = w := by
  go_enter Try.func29, Try.ntmps29
  go_wp2_with fail
  refine wp_loop_rounds 1 ?_
  rw [rounds_succ]
  go_wp2_with fail
  go_end0
  exact ⟨rfl, rfl⟩
theorem heap_c3 {w : World} {o o1 o2 : Obj} : (((w.alloc o).alloc o1).alloc o2).heap[w.heap.size]? = some o := by
  rw [Below.heap_alloc _ _ _ (by simp; omega), Below.heap_alloc _ _ _ (by simp)]
  exact heap_alloc_new _ _
theorem heap_c4 {w : World} {o o1 o2 o3 : Obj} : ((((w.alloc o).alloc o1).alloc o2).alloc o3).heap[w.heap.size]? = some o := by
  rw [Below.heap_alloc _ _ _ (by simp; omega)]
  exact heap_c3
theorem below3 (w : World) (o1 o2 o3 : Obj) : Below w.heap.size w (((w.alloc o1).alloc o2).alloc o3) := (below2 w o1 o2).alloc (below2 w o1 o2).size _
theorem below4 (w : World) (o1 o2 o3 o4 : Obj) : Below w.heap.size w ((((w.alloc o1).alloc o2).alloc o3).alloc o4) := (below3 w o1 o2 o3).alloc (below3 w o1 o2 o3).size _
set_option maxRecDepth 100000 in
set_option maxHeartbeats 1000000 in
theorem or_first (b : Nat) (xz xs yz ys : Int) (w : World) (h : w.heap[b]? = some (.cells #[.int .u64 xz, .int .i64 xs, .pointer none, .int .u64 yz, .int .i64 ys, .pointer none] 52)) (hx : ¬ (xz = 0 ∧ xs = 0)) :
    Calls Try.prog 33 #[.slice (some ⟨b, 0, none⟩) 2 2] w fun e w' => e = .returned (.agg #[.int .u64 xz, .int .i64 xs, .pointer none]) ∧ Below w.heap.size w w' := by
  have c0 : w.cell? ⟨b, 0, none⟩ = some (.int .u64 xz) := by rw [cell_of_row _ _ _ _ _ _ h]; rfl
  have c1 : w.cell? ⟨b, 1, none⟩ = some (.int .i64 xs) := by rw [cell_of_row _ _ _ _ _ _ h]; rfl
  have c2 : w.cell? ⟨b, 2, none⟩ = some (.pointer none) := by rw [cell_of_row _ _ _ _ _ _ h]; rfl
  have hb := block_lt_of_cell c0
  clear h
  by_cases q : xz = 0
  · subst q
    have q2 : ¬ xs = 0 := fun e => hx ⟨rfl, e⟩
    clear hx
    go_enter Try.func33, Try.ntmps33
    go_wp2_with fail
    refine wp_loop_rounds 3 ?_
    rw [rounds_succ]
    go_wp2_with fail
    refine bodyPost_ret (results_cell_row rfl _ _ w.heap.size 52 _ _ _ rfl heap_c3 Try.underlying52 rfl size52) rfl ?_
    exact ⟨rfl, below3 _ _ _ _⟩
  · clear hx
    go_enter Try.func33, Try.ntmps33
    go_wp2_with fail
    refine wp_loop_rounds 3 ?_
    rw [rounds_succ]
    go_wp2_with fail
    refine bodyPost_ret (results_cell_row rfl _ _ w.heap.size 52 _ _ _ rfl heap_c3 Try.underlying52 rfl size52) rfl ?_
    exact ⟨rfl, below3 _ _ _ _⟩
theorem eq_nil (w : World) : (Op.equalIn 9999 50 (.pointer none) (.pointer none)).run Try.prog w = .ok true w := by
  exact run_equalIn_pointer_nil (P := Try.prog) w 9998 50 none (by rw [Program.pointee, Try.underlying50])
set_option maxRecDepth 100000 in
set_option maxHeartbeats 1000000 in
theorem or_s1 (b : Nat) (yz ys : Int) (w : World) (h : w.heap[b]? = some (.cells #[.int .u64 0, .int .i64 0, .pointer none, .int .u64 yz, .int .i64 ys, .pointer none] 52)) (q : ¬ yz = 0) :
    Calls Try.prog 33 #[.slice (some ⟨b, 0, none⟩) 2 2] w fun e w' => e = .returned (.agg #[.int .u64 yz, .int .i64 ys, .pointer none]) ∧ Below w.heap.size w w' := by
  have c0 : w.cell? ⟨b, 0, none⟩ = some (.int .u64 0) := by rw [cell_of_row _ _ _ _ _ _ h]; rfl
  have c1 : w.cell? ⟨b, 1, none⟩ = some (.int .i64 0) := by rw [cell_of_row _ _ _ _ _ _ h]; rfl
  have c2 : w.cell? ⟨b, 2, none⟩ = some (.pointer none) := by rw [cell_of_row _ _ _ _ _ _ h]; rfl
  have c3 : w.cell? ⟨b, 3, none⟩ = some (.int .u64 yz) := by rw [cell_of_row _ _ _ _ _ _ h]; rfl
  have c4 : w.cell? ⟨b, 4, none⟩ = some (.int .i64 ys) := by rw [cell_of_row _ _ _ _ _ _ h]; rfl
  have c5 : w.cell? ⟨b, 5, none⟩ = some (.pointer none) := by rw [cell_of_row _ _ _ _ _ _ h]; rfl
  have hb := block_lt_of_cell c0
  simp only at hb
  have hb1 : b < w.heap.size + 1 := by omega
  have hb2 : b < w.heap.size + 1 + 1 := by omega
  have hb3 : b < w.heap.size + 1 + 1 + 1 := by omega
  have hnil := eq_nil
  clear h
  go_enter Try.func33, Try.ntmps33
  go_wp2_with fail
  refine wp_loop_rounds 3 ?_
  rw [rounds_succ]
  go_wp2_with fail
  rw [rounds_succ]
  go_wp2_with fail
  refine bodyPost_ret (results_cell_row rfl _ _ w.heap.size 52 _ _ _ rfl heap_c4 Try.underlying52 rfl size52) rfl ?_
  exact ⟨rfl, below4 _ _ _ _ _⟩
set_option maxRecDepth 100000 in
set_option maxHeartbeats 1000000 in
theorem or_s2 (b : Nat) (ys : Int) (w : World) (h : w.heap[b]? = some (.cells #[.int .u64 0, .int .i64 0, .pointer none, .int .u64 0, .int .i64 ys, .pointer none] 52)) (q : ¬ ys = 0) :
    Calls Try.prog 33 #[.slice (some ⟨b, 0, none⟩) 2 2] w fun e w' => e = .returned (.agg #[.int .u64 0, .int .i64 ys, .pointer none]) ∧ Below w.heap.size w w' := by
  have c0 : w.cell? ⟨b, 0, none⟩ = some (.int .u64 0) := by rw [cell_of_row _ _ _ _ _ _ h]; rfl
  have c1 : w.cell? ⟨b, 1, none⟩ = some (.int .i64 0) := by rw [cell_of_row _ _ _ _ _ _ h]; rfl
  have c2 : w.cell? ⟨b, 2, none⟩ = some (.pointer none) := by rw [cell_of_row _ _ _ _ _ _ h]; rfl
  have c3 : w.cell? ⟨b, 3, none⟩ = some (.int .u64 0) := by rw [cell_of_row _ _ _ _ _ _ h]; rfl
  have c4 : w.cell? ⟨b, 4, none⟩ = some (.int .i64 ys) := by rw [cell_of_row _ _ _ _ _ _ h]; rfl
  have c5 : w.cell? ⟨b, 5, none⟩ = some (.pointer none) := by rw [cell_of_row _ _ _ _ _ _ h]; rfl
  have hb := block_lt_of_cell c0
  simp only at hb
  have hb1 : b < w.heap.size + 1 := by omega
  have hb2 : b < w.heap.size + 1 + 1 := by omega
  have hb3 : b < w.heap.size + 1 + 1 + 1 := by omega
  have hnil := eq_nil
  clear h
  go_enter Try.func33, Try.ntmps33
  go_wp2_with fail
  refine wp_loop_rounds 3 ?_
  rw [rounds_succ]
  go_wp2_with fail
  rw [rounds_succ]
  go_wp2_with fail
  refine bodyPost_ret (results_cell_row rfl _ _ w.heap.size 52 _ _ _ rfl heap_c4 Try.underlying52 rfl size52) rfl ?_
  exact ⟨rfl, below4 _ _ _ _ _⟩
set_option maxRecDepth 100000 in
set_option maxHeartbeats 1000000 in
theorem or_s3 (b : Nat)  (w : World) (h : w.heap[b]? = some (.cells #[.int .u64 0, .int .i64 0, .pointer none, .int .u64 0, .int .i64 0, .pointer none] 52))  :
    Calls Try.prog 33 #[.slice (some ⟨b, 0, none⟩) 2 2] w fun e w' => e = .returned (.agg #[.int .u64 0, .int .i64 0, .pointer none]) ∧ Below w.heap.size w w' := by
  have c0 : w.cell? ⟨b, 0, none⟩ = some (.int .u64 0) := by rw [cell_of_row _ _ _ _ _ _ h]; rfl
  have c1 : w.cell? ⟨b, 1, none⟩ = some (.int .i64 0) := by rw [cell_of_row _ _ _ _ _ _ h]; rfl
  have c2 : w.cell? ⟨b, 2, none⟩ = some (.pointer none) := by rw [cell_of_row _ _ _ _ _ _ h]; rfl
  have c3 : w.cell? ⟨b, 3, none⟩ = some (.int .u64 0) := by rw [cell_of_row _ _ _ _ _ _ h]; rfl
  have c4 : w.cell? ⟨b, 4, none⟩ = some (.int .i64 0) := by rw [cell_of_row _ _ _ _ _ _ h]; rfl
  have c5 : w.cell? ⟨b, 5, none⟩ = some (.pointer none) := by rw [cell_of_row _ _ _ _ _ _ h]; rfl
  have hb := block_lt_of_cell c0
  simp only at hb
  have hb1 : b < w.heap.size + 1 := by omega
  have hb2 : b < w.heap.size + 1 + 1 := by omega
  have hb3 : b < w.heap.size + 1 + 1 + 1 := by omega
  have hnil := eq_nil
  clear h
  go_enter Try.func33, Try.ntmps33
  go_wp2_with fail
  refine wp_loop_rounds 3 ?_
  rw [rounds_succ]
  go_wp2_with fail
  rw [rounds_succ]
  go_wp2_with fail
  rw [rounds_succ]
  go_wp2_with fail
  refine bodyPost_ret (results_cell_row rfl _ _ w.heap.size 52 _ _ _ rfl heap_c4 Try.underlying52 rfl size52) rfl ?_
  exact ⟨rfl, below4 _ _ _ _ _⟩
theorem or_second (b : Nat) (yz ys : Int) (w : World) (h : w.heap[b]? = some (.cells #[.int .u64 0, .int .i64 0, .pointer none, .int .u64 yz, .int .i64 ys, .pointer none] 52)) :
    Calls Try.prog 33 #[.slice (some ⟨b, 0, none⟩) 2 2] w fun e w' => e = .returned (.agg #[.int .u64 yz, .int .i64 ys, .pointer none]) ∧ Below w.heap.size w w' := by
  by_cases q : yz = 0
  · subst q
    by_cases q2 : ys = 0
    · subst q2
      exact or_s3 b w h
    · exact or_s2 b ys w h q2
  · exact or_s1 b yz ys w h q
/-- 'cmp.Or(x, y)' of two times. -/
theorem or_any (b : Nat) (x y : Int) (w : World) (h : w.heap[b]? = some (.cells #[.int .u64 (x % 1000000000), .int .i64 (x / 1000000000), .pointer none, .int .u64 (y % 1000000000), .int .i64 (y / 1000000000), .pointer none] 52)) :
    Calls Try.prog 33 #[.slice (some ⟨b, 0, none⟩) 2 2] w fun e w' => e = .returned (T (if x = 0 then y else x)) ∧ Below w.heap.size w w' := by
  by_cases hx : x = 0
  · subst hx
    rw [if_pos rfl]
    exact or_second b _ _ w h
  · rw [if_neg hx]
    exact or_first b _ _ _ _ w h (by omega)
section
variable {w W W' : World} {a b : Nat} {a0 a1 a2 b0 b1 b2 : Value}
theorem bcell {w W : World} (h : Below w.heap.size w W) {p : Addr} {v : Value} (hc : w.cell? p = some v) : W.cell? p = some v := by
  rw [h.cell (block_lt_of_cell hc)]; exact hc
theorem below_drew' (w : World) : Below w.heap.size w w.drew := (Below.refl _ w).drew
theorem held6 (h : W.cell? ⟨a, 0, none⟩ = some a0 ∧ W.cell? ⟨a, 1, none⟩ = some a1 ∧ W.cell? ⟨a, 2, none⟩ = some a2 ∧ W.cell? ⟨b, 0, none⟩ = some b0 ∧ W.cell? ⟨b, 1, none⟩ = some b1 ∧ W.cell? ⟨b, 2, none⟩ = some b2 ∧ Hid (Below w.heap.size w W)) (hk : Below W.heap.size W W') :
    W'.cell? ⟨a, 0, none⟩ = some a0 ∧ W'.cell? ⟨a, 1, none⟩ = some a1 ∧ W'.cell? ⟨a, 2, none⟩ = some a2 ∧ W'.cell? ⟨b, 0, none⟩ = some b0 ∧ W'.cell? ⟨b, 1, none⟩ = some b1 ∧ W'.cell? ⟨b, 2, none⟩ = some b2 ∧ Hid (Below w.heap.size w W') := by
  obtain ⟨h1, h2, h3, h4, h5, h6, h7⟩ := h
  exact ⟨bcell hk h1, bcell hk h2, bcell hk h3, bcell hk h4, bcell hk h5, bcell hk h6, hide ((unhide h7).trans (hk.mono (unhide h7).size))⟩
theorem sub_held (w : World) (z s : Int) :
    ((w.alloc (.cells #[.int .u64 z, .int .i64 s, .pointer none] 52)).alloc (.cells #[.int .u64 0, .int .i64 0, .pointer none] 52)).cell? ⟨w.heap.size, 0, none⟩ = some (.int .u64 z) ∧ ((w.alloc (.cells #[.int .u64 z, .int .i64 s, .pointer none] 52)).alloc (.cells #[.int .u64 0, .int .i64 0, .pointer none] 52)).cell? ⟨w.heap.size, 1, none⟩ = some (.int .i64 s) ∧ ((w.alloc (.cells #[.int .u64 z, .int .i64 s, .pointer none] 52)).alloc (.cells #[.int .u64 0, .int .i64 0, .pointer none] 52)).cell? ⟨w.heap.size, 2, none⟩ = some (.pointer none) ∧
    ((w.alloc (.cells #[.int .u64 z, .int .i64 s, .pointer none] 52)).alloc (.cells #[.int .u64 0, .int .i64 0, .pointer none] 52)).cell? ⟨w.heap.size + 1, 0, none⟩ = some (.int .u64 0) ∧ ((w.alloc (.cells #[.int .u64 z, .int .i64 s, .pointer none] 52)).alloc (.cells #[.int .u64 0, .int .i64 0, .pointer none] 52)).cell? ⟨w.heap.size + 1, 1, none⟩ = some (.int .i64 0) ∧ ((w.alloc (.cells #[.int .u64 z, .int .i64 s, .pointer none] 52)).alloc (.cells #[.int .u64 0, .int .i64 0, .pointer none] 52)).cell? ⟨w.heap.size + 1, 2, none⟩ = some (.pointer none) ∧
    Hid (Below w.heap.size w ((w.alloc (.cells #[.int .u64 z, .int .i64 s, .pointer none] 52)).alloc (.cells #[.int .u64 0, .int .i64 0, .pointer none] 52))) :=
  ⟨by simp [go_sem], by simp [go_sem], by simp [go_sem], by simp [go_sem], by simp [go_sem], by simp [go_sem], below2 _ _ _⟩
end
set_option maxRecDepth 100000 in
set_option maxHeartbeats 1000000 in
/-- 'x.Sub(zero)'. -/
theorem sub_any (x : Int) (hx : -9223372036854775808 < x ∧ x < 9223372036854775807) (hx2 : -4611686018427387904 ≤ x ∧ x ≤ 4611686018427387904) (w : World) :
    Calls Try.prog 32 #[T x, T 0] w fun e w' => e = .returned (.int .i64 x) ∧ Below w.heap.size w w' := by
  have x0 : 0 ≤ x % 1000000000 := by omega
  have x1 : x % 1000000000 < 1000000000 := by omega
  have hm := mono_and _ _ x0 x1 (show 0 ≤ 0 by omega) (by omega)
  have hs : (x / 1000000000) * 1000000000 + x % 1000000000 = x := by omega
  have hs2 : IntKind.i64.wrap ((x / 1000000000) * 1000000000) = (x / 1000000000) * 1000000000 := by rw [IntKind.wrap_i64]; omega
  have Hadd := hide (fun w => tadd_any 0 x (by omega) hx2 w)
  have Heq := hide (fun w => equal_any x w)
  rw [show (0 : Int) + x = x by omega] at Hadd
  unfold T at *
  rw [show (0 : Int) % 1000000000 = 0 by rfl, show (0 : Int) / 1000000000 = 0 by rfl] at *
  have y0 : (0 : Int) ≤ 0 := by omega
  have y1 : (0 : Int) < 1000000000 := by omega
  go_enter Try.func32, Try.ntmps32
  go_wp2_with fail
  refine (sec_any _ (x % 1000000000) (x / 1000000000) x0 x1 _ (by simp [go_sem]) (by simp [go_sem])).mono ?_
  rintro e w1 ⟨rfl, rfl⟩
  go_wp2_with fail
  refine (sec_any _ 0 0 y0 y1 _ (by simp [go_sem]) (by simp [go_sem])).mono ?_
  rintro e w1 ⟨rfl, rfl⟩
  go_wp2_with fail
  refine (nsec_any _ (x % 1000000000) x0 x1 _ (by simp [go_sem])).mono ?_
  rintro e w1 ⟨rfl, rfl⟩
  go_wp2_with fail
  refine (nsec_any _ 0 y0 y1 _ (by simp [go_sem])).mono ?_
  rintro e w1 ⟨rfl, rfl⟩
  go_wp2_with fail
  have hS := sub_held w (x % 1000000000) (x / 1000000000)
  generalize ((w.alloc (.cells #[.int .u64 (x % 1000000000), .int .i64 (x / 1000000000), .pointer none] 52)).alloc (.cells #[.int .u64 0, .int .i64 0, .pointer none] 52)) = w1 at *
  have HS := hide hS
  clear hS
  go_region_held3 (fun W => W.cell? ⟨w.heap.size, 0, none⟩ = some (.int .u64 (x % 1000000000)) ∧ W.cell? ⟨w.heap.size, 1, none⟩ = some (.int .i64 (x / 1000000000)) ∧ W.cell? ⟨w.heap.size, 2, none⟩ = some (.pointer none) ∧ W.cell? ⟨w.heap.size + 1, 0, none⟩ = some (.int .u64 0) ∧ W.cell? ⟨w.heap.size + 1, 1, none⟩ = some (.int .i64 0) ∧ W.cell? ⟨w.heap.size + 1, 2, none⟩ = some (.pointer none) ∧ Hid (Below w.heap.size w W))
    (first | exact held6 (unhide HS) (below_drew' _) | assumption | exact held6 ‹_› (unhide ‹_›) | exact held6 (unhide HS) (Below.refl _ _))
    (first | (go_at_call 30; refine (unhide Hadd _).mono ?_; rintro e w5 ⟨rfl, hk5⟩; have HK5 := hide hk5; clear hk5) | (go_at_call 49; refine (unhide Heq _).mono ?_; rintro e w6 ⟨rfl, hk6⟩; have HK6 := hide hk6; clear hk6))
  have hB : Hid (Below w.heap.size w w6) := by
    have h6 : w6.cell? ⟨w.heap.size, 0, none⟩ = some (.int .u64 (x % 1000000000)) ∧ w6.cell? ⟨w.heap.size, 1, none⟩ = some (.int .i64 (x / 1000000000)) ∧ w6.cell? ⟨w.heap.size, 2, none⟩ = some (.pointer none) ∧ w6.cell? ⟨w.heap.size + 1, 0, none⟩ = some (.int .u64 0) ∧ w6.cell? ⟨w.heap.size + 1, 1, none⟩ = some (.int .i64 0) ∧ w6.cell? ⟨w.heap.size + 1, 2, none⟩ = some (.pointer none) ∧ Hid (Below w.heap.size w w6) := by assumption
    exact h6.2.2.2.2.2.2
  go_wp2_with fail
  go_ret
  exact ⟨rfl, unhide hB⟩
end Go.Proofs.Qxb6616364a
