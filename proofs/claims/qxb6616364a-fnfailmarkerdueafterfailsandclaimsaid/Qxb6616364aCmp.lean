/-
  Before (46), Equal (49), Sub (32) OF package time, cmp.Or (33).
-/
import Derived.Test.Qxb6616364aTime
namespace Go.Proofs.Qxb6616364a
open Go.RowKit Go.MuLone
theorem mono_and (y z : Int) (h0 : 0 ≤ y) (h1 : y < 1000000000) (k0 : 0 ≤ z) (k1 : z < 1000000000) : bits .and .u64 (bits .and .u64 y z) 9223372036854775808 = 0 := by
  obtain ⟨a, rfl⟩ := Int.eq_ofNat_of_zero_le h0
  obtain ⟨b, rfl⟩ := Int.eq_ofNat_of_zero_le k0
  rw [bits_and_nat a b (by omega) (by omega)]
  have : a &&& b ≤ a := Nat.and_le_left
  exact mono_mask _ (by omega) (by omega)
set_option maxRecDepth 100000 in
set_option maxHeartbeats 1000000 in
theorem before_any (x y : Int) (w : World) :
    Calls Try.prog 46 #[T x, T y] w fun e w' => e = .returned (.bool (decide (x < y))) ∧ Below w.heap.size w w' := by
  unfold T
  have x0 : 0 ≤ x % 1000000000 := by omega
  have x1 : x % 1000000000 < 1000000000 := by omega
  have y0 : 0 ≤ y % 1000000000 := by omega
  have y1 : y % 1000000000 < 1000000000 := by omega
  have hm := mono_and _ _ x0 x1 y0 y1
  have hd : decide (x < y) = (decide (x / 1000000000 < y / 1000000000) || (decide (x / 1000000000 = y / 1000000000) && decide (x % 1000000000 < y % 1000000000))) := by
    by_cases h : x < y <;> by_cases h2 : x / 1000000000 < y / 1000000000 <;> by_cases h3 : x / 1000000000 = y / 1000000000 <;> by_cases h4 : x % 1000000000 < y % 1000000000 <;> simp [h, h2, h3, h4] <;> omega
  rw [hd]
  have Hd := hide hd
  clear hd Hd
  generalize x % 1000000000 = xz at *
  generalize x / 1000000000 = xs at *
  generalize y % 1000000000 = yz at *
  generalize y / 1000000000 = ys at *
  have HS := hide (fun w h1 h2 => sec_any w.heap.size xz xs x0 x1 w h1 h2)
  clear HS
  have hb := below2 w (.cells #[.int .u64 xz, .int .i64 xs, .pointer none] 52) (.cells #[.int .u64 yz, .int .i64 ys, .pointer none] 52)
  have Hb := hide hb
  clear hb
  by_cases q1 : xs < ys
  · go_enter Try.func46, Try.ntmps46
    go_wp2_with fail
    refine (sec_any _ xz xs x0 x1 _ (by simp [go_sem]) (by simp [go_sem])).mono ?_
    rintro e w1 ⟨rfl, rfl⟩
    go_wp2_with fail
    refine (sec_any _ yz ys y0 y1 _ (by simp [go_sem]) (by simp [go_sem])).mono ?_
    rintro e w1 ⟨rfl, rfl⟩
    go_wp2_with fail
    go_ret
    exact ⟨by simp [q1], unhide Hb⟩
  by_cases q2 : xs = ys
  · subst q2
    have q3 : (xs == xs) = true := by simp
    go_enter Try.func46, Try.ntmps46
    go_wp2_with fail
    refine (sec_any _ xz xs x0 x1 _ (by simp [go_sem]) (by simp [go_sem])).mono ?_
    rintro e w1 ⟨rfl, rfl⟩
    go_wp2_with fail
    refine (sec_any _ yz xs y0 y1 _ (by simp [go_sem]) (by simp [go_sem])).mono ?_
    rintro e w1 ⟨rfl, rfl⟩
    go_wp2_with fail
    refine (nsec_any _ xz x0 x1 _ (by simp [go_sem])).mono ?_
    rintro e w1 ⟨rfl, rfl⟩
    go_wp2_with fail
    refine (nsec_any _ yz y0 y1 _ (by simp [go_sem])).mono ?_
    rintro e w1 ⟨rfl, rfl⟩
    go_wp2_with fail
    go_ret
    exact ⟨by simp, unhide Hb⟩
  · have q3 : (xs == ys) = false := by simp [q2]
    go_enter Try.func46, Try.ntmps46
    go_wp2_with fail
    refine (sec_any _ xz xs x0 x1 _ (by simp [go_sem]) (by simp [go_sem])).mono ?_
    rintro e w1 ⟨rfl, rfl⟩
    go_wp2_with fail
    refine (sec_any _ yz ys y0 y1 _ (by simp [go_sem]) (by simp [go_sem])).mono ?_
    rintro e w1 ⟨rfl, rfl⟩
    go_wp2_with fail
    go_ret
    exact ⟨by simp [q2], unhide Hb⟩
set_option maxRecDepth 100000 in
set_option maxHeartbeats 1000000 in
theorem equal_any (x : Int) (w : World) :
    Calls Try.prog 49 #[T x, T x] w fun e w' => e = .returned (.bool true) ∧ Below w.heap.size w w' := by
  unfold T
  have x0 : 0 ≤ x % 1000000000 := by omega
  have x1 : x % 1000000000 < 1000000000 := by omega
  have hm := mono_and _ _ x0 x1 x0 x1
  generalize x % 1000000000 = xz at *
  generalize x / 1000000000 = xs at *
  have Hb := hide (below2 w (.cells #[.int .u64 xz, .int .i64 xs, .pointer none] 52) (.cells #[.int .u64 xz, .int .i64 xs, .pointer none] 52))
  have q3 : (xs == xs) = true := by simp
  have q4 : (xz == xz) = true := by simp
  go_enter Try.func49, Try.ntmps49
  go_wp2_with fail
  refine (sec_any _ xz xs x0 x1 _ (by simp [go_sem]) (by simp [go_sem])).mono ?_
  rintro e w1 ⟨rfl, rfl⟩
  go_wp2_with fail
  refine (sec_any _ xz xs x0 x1 _ (by simp [go_sem]) (by simp [go_sem])).mono ?_
  rintro e w1 ⟨rfl, rfl⟩
  go_wp2_with fail
  refine (nsec_any _ xz x0 x1 _ (by simp [go_sem])).mono ?_
  rintro e w1 ⟨rfl, rfl⟩
  go_wp2_with fail
  refine (nsec_any _ xz x0 x1 _ (by simp [go_sem])).mono ?_
  rintro e w1 ⟨rfl, rfl⟩
  go_wp2_with fail
  go_ret
  exact ⟨rfl, unhide Hb⟩
end Go.Proofs.Qxb6616364a
