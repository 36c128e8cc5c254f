/-
  THE WALKS OF (*Rand).uint64n (50), IntN (48).
-/
import Derived.Test.Qxb6616210aRand
import Derived.Deep.LoopGhost
namespace Go.Proofs.Qxb6616210a
open Go.RowKit Go.Lib

/-- What a roll leaves. -/
def RollPost (k : IntKind) (bp S n : Nat) (w : World) (e : Ending) (w' : World) : Prop :=
  ∃ v S' : Nat, e = .returned (.int k v) ∧ Pcg.Rolls S n v S' ∧ PcgAt w' bp S' ∧ Kept (· = bp) w w'

set_option maxHeartbeats 1000000 in
theorem roll_pow (bR bp S n : Nat) (hS : S < Pcg.W128) (h0 : 0 < n) (hn : n < 18446744073709551616) (hp : n &&& (n - 1) = 0) (w : World) (h : PcgAt w bp S) (hr : RandAt w bR bp) :
    Calls Try.prog 50 #[.pointer (some ⟨bR, 0, none⟩), .int .u64 n] w fun e w' => RollPost .u64 bp S n w e w' := by
  have e1 : (n : Int) - 1 = ((n - 1 : Nat) : Int) := by omega
  have eA : bits .and .u64 (n : Int) ((n : Int) - 1) = 0 := by rw [e1, bits_and_u64_nat n (n - 1) hn (by omega), hp]; rfl
  have eR : bits .and .u64 (Pcg.outN (Pcg.nx S) : Int) ((n : Int) - 1) = ((Pcg.outN (Pcg.nx S) &&& (n - 1) : Nat) : Int) := by rw [e1, bits_and_u64_nat _ (n - 1) (Pcg.outN_lt _) (by omega)]
  have HR : Hid (Pcg.Rolls S n (Pcg.outN (Pcg.nx S) &&& (n - 1)) (Pcg.nx S)) := .inl ⟨hp, rfl, rfl⟩
  have Hu := hide (rand_uint64 bR bp S hS w h hr (Pcg.nx S) rfl)
  have hn' : (1 : Int) ≤ n := by omega
  clear hp h hr hS e1
  generalize Pcg.nx S = S' at *
  go_enter Try.func50, Try.ntmps50
  go_wp2_with (go_at_call 52; refine (unhide Hu).mono ?_; rintro e w' ⟨rfl, hP, hK⟩)
  go_ret
  exact ⟨_, _, rfl, unhide HR, hP, hK⟩

def rhi (n S : Nat) : Nat := Pcg.outN S * n / 18446744073709551616
def rlo (n S : Nat) : Nat := Pcg.outN S * n % 18446744073709551616
theorem mul_roll (n S : Nat) (hn : n < 18446744073709551616) (w : World) :
    Calls Try.prog 53 #[.int .u64 (Pcg.outN S : Nat), .int .u64 n] w fun e w' => e = .returned (.tuple #[.int .u64 (rhi n S : Nat), .int .u64 (rlo n S : Nat)]) ∧ w' = w :=
  mul64 (Pcg.outN S) n (Pcg.outN_lt _) hn w

theorem it_succ' (m S : Nat) : Pcg.it (m + 1) S = Pcg.nx (Pcg.it m S) := by
  induction m generalizing S with
  | zero => rw [Pcg.it_succ, Pcg.it_zero, Pcg.it_zero]
  | succ m ih => rw [Pcg.it_succ, ih (Pcg.nx S), ← Pcg.it_succ]

theorem th_eq (n : Nat) (h0 : 0 < n) (hn : n < 18446744073709551616) : (IntKind.u64.wrap (-(n : Int))).tmod n = (Pcg.th n : Nat) := by
  have e : IntKind.u64.wrap (-(n : Int)) = ((18446744073709551616 - n : Nat) : Int) := by rw [IntKind.wrap_u64]; omega
  rw [e, Int.tmod_eq_emod_of_nonneg (by omega)]
  unfold Pcg.th
  rw [Int.natCast_emod]

theorem th_lt (n : Nat) (h0 : 0 < n) : Pcg.th n < n := Nat.mod_lt _ h0

theorem rhi_eq (n S : Nat) : rhi n S = Pcg.outN S * n / 18446744073709551616 := by unfold rhi; rfl
theorem acc_of (n S : Nat) (h : Pcg.th n ≤ rlo n S) : Pcg.acc n S := by unfold Pcg.acc; unfold rlo at h; exact h
theorem of_acc (n S : Nat) (h : Pcg.acc n S) : Pcg.th n ≤ rlo n S := by unfold Pcg.acc at h; unfold rlo; exact h
theorem rolls_mk {S n m S' v : Nat} (hp : n &&& (n - 1) ≠ 0) (hS' : S' = Pcg.it m (Pcg.nx S)) (hv : v = Pcg.outN S' * n / 18446744073709551616) (ha : Pcg.acc n S') (hb : ∀ j, j < m → ¬ Pcg.acc n (Pcg.it j (Pcg.nx S))) :
    Pcg.Rolls S n v S' := by
  unfold Pcg.Rolls
  right
  refine ⟨hp, m, hS', hv, ha, hb⟩
theorem rolls_at {S n m S' : Nat} (hp : n &&& (n - 1) ≠ 0) (hS' : S' = Pcg.it m (Pcg.nx S)) (ha : Pcg.th n ≤ rlo n S') (hb : ∀ j, j < m → ¬ Pcg.acc n (Pcg.it j (Pcg.nx S))) :
    Pcg.Rolls S n (rhi n S') S' := rolls_mk hp hS' (rhi_eq n S') (acc_of n S' ha) hb

set_option maxHeartbeats 1000000 in
theorem roll_else (bR bp S n : Nat) (hne : bR ≠ bp) (hS : S < Pcg.W128) (h0 : 0 < n) (hn : n < 18446744073709551616) (hp : n &&& (n - 1) ≠ 0) (w : World) (h : PcgAt w bp S) (hr : RandAt w bR bp) :
    Calls Try.prog 50 #[.pointer (some ⟨bR, 0, none⟩), .int .u64 n] w fun e w' => RollPost .u64 bp S n w e w' := by
  have e1 : (n : Int) - 1 = ((n - 1 : Nat) : Int) := by omega
  have eA : (bits .and .u64 (n : Int) ((n : Int) - 1) == 0) = false := by
    rw [e1, bits_and_u64_nat n (n - 1) hn (by omega), beq_eq_false_iff_ne]
    intro h; exact hp (by omega)
  have eT := th_eq n h0 hn
  have hT := th_lt n h0
  have hn' : (1 : Int) ≤ n := by omega
  have Hr := hide hr
  have Hu := hide (rand_uint64 bR bp S hS w h hr (Pcg.nx S) rfl)
  obtain ⟨k0, hk0⟩ := Pcg.acc_some n (Pcg.nx S) h0 hn (Pcg.nx_lt S)
  have Hk0 := hide hk0
  have Hat := hide (fun m => fun S' => rolls_at (S := S) (m := m) (S' := S') hp)
  have Hlt := hide (fun m => Pcg.it_lt m (Pcg.nx S) (Pcg.nx_lt S))
  clear hp h hr hS e1 hk0
  generalize Pcg.nx S = S1 at *
  have hm := hide (fun S w => mul_roll n S hn w)
  go_enter Try.func50, Try.ntmps50
  go_wp2_with fail
  refine (unhide Hu).mono ?_
  rintro e w1 ⟨rfl, hP, hK⟩
  go_wp2_with fail
  refine (unhide hm S1 w1).mono ?_
  rintro e w2 ⟨rfl, rfl⟩
  by_cases hlo : rlo n S1 < n
  · go_wp2_with fail
    clear hlo
    go_loopg [5, 6] k0 (fun g hi lo wr => ∃ m : Nat, hi = .int .u64 (rhi n (Pcg.it m S1) : Nat) ∧ lo = .int .u64 (rlo n (Pcg.it m S1) : Nat) ∧ Hid (PcgAt wr bp (Pcg.it m S1)) ∧ Hid (Kept (· = bp) w wr) ∧ Hid (∀ j, j < m → ¬ Pcg.acc n (Pcg.it j S1)) ∧ Hid (Pcg.acc n (Pcg.it (m + g) S1)))
    case atStart => exact ⟨0, by rw [Pcg.it_zero], by rw [Pcg.it_zero], by rw [Pcg.it_zero]; exact hP, hK, fun j hj => by omega, by rw [Nat.zero_add]; exact Hk0⟩
    case round =>
      obtain ⟨m, rfl, rfl, HP, HK, HB, HG⟩ := hrel
      have Hu2 := hide (rand_uint64 bR bp (Pcg.it m S1) (unhide Hlt m) wr (unhide HP) ((unhide Hr).keep (unhide HK) hne) (Pcg.it (m + 1) S1) (it_succ' m S1))
      by_cases hacc : rlo n (Pcg.it m S1) < Pcg.th n
      · go_wp2_with fail
        refine (unhide Hu2).mono ?_
        rintro e w3 ⟨rfl, hP3, hK3⟩
        go_wp2_with fail
        refine (unhide hm _ w3).mono ?_
        rintro e w4 ⟨rfl, rfl⟩
        go_wp2_with fail
        have hg : gk ≠ 0 := by
          intro e; subst e
          have := of_acc _ _ (unhide HG)
          rw [Nat.add_zero] at this
          omega
        go_roundg (gk - 1)
        case measure => omega
        case rel =>
          refine ⟨m + 1, rfl, rfl, hP3, (unhide HK).trans hK3 (fun _ _ h => h), fun j hj => ?_, ?_⟩
          · by_cases hj2 : j < m
            · exact unhide HB j hj2
            · obtain rfl : j = m := by omega
              exact fun h => Nat.not_lt.2 (of_acc _ _ h) hacc
          · rw [show m + 1 + (gk - 1) = m + gk by omega]; exact HG
      · go_wp2_with fail
        go_ret
        exact ⟨_, _, rfl, unhide Hat m _ rfl (Nat.not_lt.1 hacc) (unhide HB), unhide HP, unhide HK⟩
  · go_wp2_with fail
    go_ret
    exact ⟨_, _, rfl, unhide Hat 0 S1 (by rw [Pcg.it_zero]) (by omega) (fun j hj => by omega), hP, hK⟩

/-- 'uint64n', whatever n. -/
theorem roll_any (bR bp S n : Nat) (hne : bR ≠ bp) (hS : S < Pcg.W128) (h0 : 0 < n) (hn : n < 18446744073709551616) (w : World) (h : PcgAt w bp S) (hr : RandAt w bR bp) :
    Calls Try.prog 50 #[.pointer (some ⟨bR, 0, none⟩), .int .u64 n] w fun e w' => RollPost .u64 bp S n w e w' := by
  by_cases hp : n &&& (n - 1) = 0
  · exact roll_pow bR bp S n hS h0 hn hp w h hr
  · exact roll_else bR bp S n hne hS h0 hn hp w h hr

set_option maxHeartbeats 1000000 in
theorem intN_any (bR bp S n : Nat) (hne : bR ≠ bp) (hS : S < Pcg.W128) (h0 : 0 < n) (hn : n < 9223372036854775808) (w : World) (h : PcgAt w bp S) (hr : RandAt w bR bp) :
    Calls Try.prog 48 #[.pointer (some ⟨bR, 0, none⟩), .int .i64 n] w fun e w' => RollPost .i64 bp S n w e w' := by
  have Hr := hide (roll_any bR bp S n hne hS h0 (by omega) w h hr)
  have hn' : (1 : Int) ≤ n := by omega
  clear h hr hS hne
  go_enter Try.func48, Try.ntmps48
  go_wp2_with fail
  refine (unhide Hr).mono ?_
  rintro e w1 ⟨v, S', rfl, hR, hP, hK⟩
  have hv := hR.lt h0
  go_wp2_with fail
  go_ret
  exact ⟨v, S', rfl, hR, hP, hK⟩
end Go.Proofs.Qxb6616210a
