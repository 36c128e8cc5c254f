/-
  THE WALKS OF inTree (36), get (32), holds (27), ZZholds (10).
-/
import Derived.Test.Qxb6616202aLaw
import Derived.Test.Qxb6616202aNew
namespace Go.Proofs.Qxb6616202a
open Go.RowKit

set_option maxHeartbeats 1000000 in
theorem inTree_any (T : Nat → Int) (own ownLine : Int) (aT aL : Nat → Int) (k bc bs bk bl : Nat) (t : Int) (ht : 0 ≤ t) (w : World) (h : ClockAt w T own ownLine aT aL k bc bs bk bl) :
    Calls Try.prog 36 #[.pointer (some ⟨bc, 0, none⟩), .int .i64 t] w fun e w' => e = .returned (.int .i64 (e0 T t)) ∧ w' = w := by
  have h1 := h.store
  have h2 := h.root
  have h3 := h.shift
  have h4 := hide h.chunks
  have h5 := hide h.row
  by_cases hlt : t < 32
  · have hl : w.cell? ⟨bl, 35 + (t % 32).toNat, none⟩ = some (.int .i64 (T t.toNat)) := by rw [show t % 32 = t by omega]; exact h.leaf t.toNat (by omega)
    have he : e0 T t = T t.toNat := by simp [e0, hlt]
    rw [he]
    clear h he
    go_enter Try.func36, Try.ntmps36
    go_wp2_with fail
    go_loop [5, 6] (fun id s => id = .int .i32 1 ∧ s = .int .u8 0) (fun _ _ => 0)
    case atStart => exact ⟨rfl, rfl⟩
    case round =>
      obtain ⟨rfl, rfl⟩ := hrel
      go_wp2_with (go_at_call 26; refine (leaf_any bs bk bl _ (unhide h4) (unhide h5)).mono ?_; rintro e w' ⟨rfl, rfl⟩)
      go_ret
      exact ⟨rfl, rfl⟩
  · have he : e0 T t = 0 := by simp [e0, hlt]
    rw [he]
    clear h he
    go_enter Try.func36, Try.ntmps36
    go_wp2_with fail
    go_ret
    exact ⟨rfl, rfl⟩

set_option maxHeartbeats 1000000 in
theorem get_own (T : Nat → Int) (own ownLine : Int) (aT aL : Nat → Int) (k bc bs bk bl : Nat) (hol : 0 < ownLine) (ho1 : 0 ≤ own) (ho2 : own < 2147483648) (w : World) (h : ClockAt w T own ownLine aT aL k bc bs bk bl) :
    Calls Try.prog 32 #[.pointer (some ⟨bc, 0, none⟩), .int .i64 own] w fun e w' => e = .returned (.int .i64 ownLine) ∧ ∃ n, w' = w.drewN n := by
  have h1 := h.own
  have h2 := h.line
  go_enter Try.func32, Try.ntmps32
  go_wp2_with fail
  go_ret
  exact ⟨rfl, 0, rfl⟩

set_option maxHeartbeats 1000000 in
theorem get_else (T : Nat → Int) (own ownLine : Int) (aT aL : Nat → Int) (k bc bs bk bl : Nat) (t : Int) (ht : 0 ≤ t) (hno : ¬ (t = own ∧ 0 < ownLine)) (ho1 : 0 ≤ own) (ho2 : own < 2147483648) (hk : k ≤ 5) (ha : ∀ i, i < 5 → -2147483648 ≤ aT i ∧ aT i < 2147483648) (d : Dom T own ownLine aT aL k) (w : World) (h : ClockAt w T own ownLine aT aL k bc bs bk bl) :
    Calls Try.prog 32 #[.pointer (some ⟨bc, 0, none⟩), .int .i64 t] w fun e w' => e = .returned (.int .i64 (EL T own ownLine aT aL t k)) ∧ ∃ n, w' = w.drewN n := by
  have h1 := h.own
  have h2 := h.line
  have h3 := h.asides
  have HC := hide h
  have HD := hide d
  have Ha := hide ha
  have HN := hide hno
  clear h d ha
  have hal : Try.prog.arrayLen 23 = 5 := by kernel_rfl
  have hk' : (k : Int) ≤ 5 := by omega
  have hcase : ((t == own) = false) ∨ ((t == own) = true ∧ decide (0 < ownLine) = false) := by
    by_cases ho : t = own
    · exact .inr ⟨by simp [ho], by simp; omega⟩
    · exact .inl (by simp [ho])
  clear hno
  rcases hcase with hb | ⟨hb, hl⟩
  all_goals
    go_enter Try.func32, Try.ntmps32
    go_wp2_with fail
    go_quiet (fail)
    go_wp2_with fail
    go_loop [39] (fun i => ∃ j : Nat, j ≤ k ∧ i = .int .i64 j ∧ Hid (∀ q, q < j → aT q ≠ t)) (fun i => k - (intOf i).toNat)
    case atStart => exact ⟨0, Nat.zero_le _, rfl, fun i hi => by omega⟩
    case round =>
      obtain ⟨j, hj, rfl, HM⟩ := hrel
      by_cases hlt : j < k
      · have c1 := (unhide HC).threads j (by omega)
        have c2 := (unhide HC).lines j (by omega)
        obtain ⟨ha1, ha2⟩ := unhide Ha j (by omega)
        have hj5 : (j : Int) < 5 := by omega
        by_cases he : aT j = t
        · have hbj : (aT j == t) = true := by simp [he]
          have HE : Hid (EL T own ownLine aT aL t k = aL j) := EL_aside (unhide HD) (unhide HN) hlt he
          clear he
          go_wp2_with fail
          go_ret
          rw [unhide HE]
          exact ⟨rfl, _, rfl⟩
        · have hbj : (aT j == t) = false := by simp [he]
          clear he
          go_wp2_with fail
          go_round
          case rel => exact ⟨j + 1, by omega, by go_num, ext_lt HM.out (nb hbj)⟩
          case measure => simp [intOf]; omega
      · obtain rfl : j = k := by omega
        have HE : Hid (EL T own ownLine aT aL t j = e0 T t) := EL_first (unhide HN) HM.out
        go_wp2_with (go_at_call 36; refine (inTree_any T own ownLine aT aL j bc bs bk bl t ht _ ?_).mono ?_)
        · exact (unhide HC).below (below_drewN (Below.refl _ _) _)
        · go_ret
          rw [unhide HE]
          exact ⟨rfl, _, rfl⟩

/-- 'get' gives the entry, whatever the clock. -/
theorem get_any (T : Nat → Int) (own ownLine : Int) (aT aL : Nat → Int) (k bc bs bk bl : Nat) (t : Int) (ht : 0 ≤ t) (ho2 : own < 2147483648) (ha : ∀ i, i < 5 → -2147483648 ≤ aT i ∧ aT i < 2147483648) (d : Dom T own ownLine aT aL k) (w : World) (h : ClockAt w T own ownLine aT aL k bc bs bk bl) :
    Calls Try.prog 32 #[.pointer (some ⟨bc, 0, none⟩), .int .i64 t] w fun e w' => e = .returned (.int .i64 (EL T own ownLine aT aL t k)) ∧ ∃ n, w' = w.drewN n := by
  by_cases hno : t = own ∧ 0 < ownLine
  · obtain ⟨rfl, h0⟩ := hno
    rw [EL_own d h0]
    exact get_own T t ownLine aT aL k bc bs bk bl h0 ht ho2 w h
  · exact get_else T own ownLine aT aL k bc bs bk bl t ht hno d.own0 ho2 d.k5 ha d w h

set_option maxHeartbeats 1000000 in
theorem holds_any (T : Nat → Int) (own ownLine : Int) (aT aL : Nat → Int) (k bc bs bk bl : Nat) (line t : Int) (ht : 0 ≤ t) (ht2 : t < 2147483648) (ho2 : own < 2147483648) (ha : ∀ i, i < 5 → -2147483648 ≤ aT i ∧ aT i < 2147483648) (d : Dom T own ownLine aT aL k) (w : World) (h : ClockAt w T own ownLine aT aL k bc bs bk bl) (b : Bool) (hb : b = decide (0 < line ∧ line ≤ EL T own ownLine aT aL t k)) :
    Calls Try.prog 27 #[.pointer (some ⟨bc, 0, none⟩), .agg #[.int .i64 line, .int .i32 t]] w fun e w' => e = .returned (.bool b) ∧ Below w.heap.size w w' := by
  have HB := hide hb
  have Ha := hide ha
  have HD := hide d
  have HC := hide h
  clear ha d h hb
  by_cases hl : 0 < line
  · have Hg : Hid (∀ n, Calls Try.prog 32 #[.pointer (some ⟨bc, 0, none⟩), .int .i64 t] ((w.alloc (.cells #[.int .i64 line, .int .i32 t] 71)).drewN n) fun e w' => e = .returned (.int .i64 (EL T own ownLine aT aL t k)) ∧ ∃ m, w' = ((w.alloc (.cells #[.int .i64 line, .int .i32 t] 71)).drewN n).drewN m) := fun n =>
      get_any T own ownLine aT aL k bc bs bk bl t ht ho2 (unhide Ha) (unhide HD) _ ((unhide HC).below (below_drewN ((Below.refl _ _).alloc (Nat.le_refl _) _) n))
    generalize EL T own ownLine aT aL t k = E at *
    go_enter Try.func27, Try.ntmps27
    go_wp2_with fail
    go_quiet ((go_at_call 32; exact Calls.quiet_of (unhide Hg _)))
    go_wp2_with fail
    go_ret
    refine ⟨?_, below_drewN ((Below.refl _ _).alloc (Nat.le_refl _) _) _⟩
    rw [unhide HB]
    simp [hl]
  · have hl' : decide (0 < line) = false := by simp [hl]
    go_enter Try.func27, Try.ntmps27
    go_wp2_with fail
    go_quiet (fail)
    go_wp2_with fail
    go_ret
    refine ⟨?_, below_drewN ((Below.refl _ _).alloc (Nat.le_refl _) _) _⟩
    rw [unhide HB]
    simp
    omega

set_option maxHeartbeats 1000000 in
theorem zzholds_any (T : Nat → Int) (own ownLine : Int) (aT aL : Nat → Int) (k bc bs bk bl : Nat) (line t : Int) (ht : 0 ≤ t) (ht2 : t < 2147483648) (ho2 : own < 2147483648) (ha : ∀ i, i < 5 → -2147483648 ≤ aT i ∧ aT i < 2147483648) (d : Dom T own ownLine aT aL k) (w : World) (h : ClockAt w T own ownLine aT aL k bc bs bk bl) (b : Bool) (hb : b = decide (0 < line ∧ line ≤ EL T own ownLine aT aL t k)) :
    Calls Try.prog 10 #[.pointer (some ⟨bc, 0, none⟩), .int .i64 line, .int .i32 t] w fun e w' => e = .returned (.bool b) ∧ Below w.heap.size w w' := by
  have Hc := hide (holds_any T own ownLine aT aL k bc bs bk bl line t ht ht2 ho2 ha d w h b hb)
  clear ha d h hb
  go_enter Try.func10, Try.ntmps10
  go_wp2_with (go_at_call 27; refine (unhide Hc).mono ?_; rintro e w' ⟨rfl, hbel⟩)
  go_ret
  exact ⟨rfl, hbel⟩
end Go.Proofs.Qxb6616202a
