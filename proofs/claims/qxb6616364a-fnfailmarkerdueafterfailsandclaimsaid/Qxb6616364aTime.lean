/-
  THE TIMES OF package time: nsec (43), sec (48), addSec (44), Add (30).
-/
import Derived.Test.Qxb6616364aLocks
import Derived.Conc.MuLone
import Derived.WalkKit
import Derived.Below
import Derived.ProofKit
import Derived.Deep.QuietTactic
import Derived.Deep.Cut
namespace Go.Proofs.Qxb6616364a
open Go.RowKit Go.MuLone

def Hid (p : Prop) : Prop := p
theorem hide {p : Prop} (h : p) : Hid p := h
theorem unhide {p : Prop} (h : Hid p) : p := h
/-- The time x nanoseconds behind the zero time. -/
def T (x : Int) : Value := .agg #[.int .u64 (x % 1000000000), .int .i64 (x / 1000000000), .pointer none]

theorem bits_and_nat (a b : Nat) (ha : a < 18446744073709551616) (hb : b < 18446744073709551616) : bits .and .u64 (a : Int) (b : Int) = ((a &&& b : Nat) : Int) := by
  have h : (a &&& b) < 18446744073709551616 := Nat.lt_of_le_of_lt Nat.and_le_left ha
  have e : (BitVec.ofInt IntKind.u64.bits (a : Int) &&& BitVec.ofInt IntKind.u64.bits (b : Int)).toNat = a &&& b := by
    simp only [BitVec.toNat_and, BitVec.ofInt_natCast, BitVec.toNat_ofNat]
    rw [Nat.mod_eq_of_lt (show a < 2 ^ IntKind.u64.bits from ha), Nat.mod_eq_of_lt (show b < 2 ^ IntKind.u64.bits from hb)]
  simp only [bits]
  rw [e, IntKind.wrap_u64]
  omega
theorem bits_or_nat (a b : Nat) (ha : a < 18446744073709551616) (hb : b < 18446744073709551616) : bits .or .u64 (a : Int) (b : Int) = ((a ||| b : Nat) : Int) := by
  have h : (a ||| b) < 18446744073709551616 := Nat.or_lt_two_pow (n := 64) ha hb
  have e : (BitVec.ofInt IntKind.u64.bits (a : Int) ||| BitVec.ofInt IntKind.u64.bits (b : Int)).toNat = a ||| b := by
    simp only [BitVec.toNat_or, BitVec.ofInt_natCast, BitVec.toNat_ofNat]
    rw [Nat.mod_eq_of_lt (show a < 2 ^ IntKind.u64.bits from ha), Nat.mod_eq_of_lt (show b < 2 ^ IntKind.u64.bits from hb)]
  simp only [bits]
  rw [e, IntKind.wrap_u64]
  omega
theorem nsec_mask (z : Int) (h0 : 0 ≤ z) (h1 : z < 1000000000) : bits .and .u64 z 1073741823 = z := by
  obtain ⟨n, rfl⟩ := Int.eq_ofNat_of_zero_le h0
  have e := bits_and_nat n 1073741823 (by omega) (by omega)
  have h2 : n &&& 1073741823 = n := by
    have := Nat.and_two_pow_sub_one_eq_mod n 30
    simp at this
    omega
  rw [h2] at e
  exact e
theorem mono_mask (z : Int) (h0 : 0 ≤ z) (h1 : z < 1000000000) : bits .and .u64 z 9223372036854775808 = 0 := by
  obtain ⟨n, rfl⟩ := Int.eq_ofNat_of_zero_le h0
  have e := bits_and_nat n 9223372036854775808 (by omega) (by omega)
  have h2 : n &&& 9223372036854775808 = 0 := by
    apply Nat.eq_of_testBit_eq
    intro i
    rw [Nat.testBit_and, show (9223372036854775808 : Nat) = 2 ^ 63 from rfl, Nat.testBit_two_pow]
    by_cases hi : 63 = i
    · subst hi
      rw [Nat.testBit_lt_two_pow (show n < 2 ^ 63 by omega)]; simp
    · simp [hi]
  rw [h2] at e
  exact e
theorem mask_bit : ∀ i : Fin 64, (BitVec.ofInt 64 1073741823).getLsbD i.1 = decide (i.1 < 30) := by decide
theorem andnot_mask (z : Int) (h0 : 0 ≤ z) (h1 : z < 1000000000) : bits .andNot .u64 z 1073741823 = 0 := by
  obtain ⟨n, rfl⟩ := Int.eq_ofNat_of_zero_le h0
  have e : (BitVec.ofInt 64 (n : Int) &&& ~~~BitVec.ofInt 64 1073741823) = 0#64 := by
    apply BitVec.eq_of_getLsbD_eq
    intro i hi
    rw [BitVec.getLsbD_and, BitVec.getLsbD_not, mask_bit ⟨i, hi⟩, BitVec.ofInt_natCast, BitVec.getLsbD_ofNat]
    by_cases h : i < 30
    · simp [h]
    · have : n.testBit i = false := Nat.testBit_lt_two_pow (Nat.lt_of_lt_of_le (show n < 2 ^ 30 by omega) (Nat.pow_le_pow_right (by omega) (by omega)))
      simp [this]
  show IntKind.u64.wrap ((BitVec.ofInt 64 (n : Int) &&& ~~~BitVec.ofInt 64 1073741823).toNat : Int) = 0
  rw [e]
  rfl
theorem or_zero (z : Int) (h0 : 0 ≤ z) (h1 : z < 1000000000) : bits .or .u64 0 z = z := by
  obtain ⟨n, rfl⟩ := Int.eq_ofNat_of_zero_le h0
  have e := bits_or_nat 0 n (by omega) (by omega)
  rw [Nat.zero_or] at e
  exact e

set_option maxRecDepth 100000 in
set_option maxHeartbeats 1000000 in
theorem nsec_any (b : Nat) (z : Int) (h0 : 0 ≤ z) (h1 : z < 1000000000) (w : World) (hc : w.cell? ⟨b, 0, none⟩ = some (.int .u64 z)) :
    Calls Try.prog 43 #[.pointer (some ⟨b, 0, none⟩)] w fun e w' => e = .returned (.int .i32 z) ∧ w' = w := by
  have hm := nsec_mask z h0 h1
  go_enter Try.func43, Try.ntmps43
  go_wp2_with fail
  go_ret
  exact ⟨rfl, rfl⟩
set_option maxRecDepth 100000 in
set_option maxHeartbeats 1000000 in
theorem sec_any (b : Nat) (z s : Int) (h0 : 0 ≤ z) (h1 : z < 1000000000) (w : World) (hc : w.cell? ⟨b, 0, none⟩ = some (.int .u64 z)) (hs : w.cell? ⟨b, 1, none⟩ = some (.int .i64 s)) :
    Calls Try.prog 48 #[.pointer (some ⟨b, 0, none⟩)] w fun e w' => e = .returned (.int .i64 s) ∧ w' = w := by
  have hm := mono_mask z h0 h1
  go_enter Try.func48, Try.ntmps48
  go_wp2_with fail
  go_ret
  exact ⟨rfl, rfl⟩
set_option maxRecDepth 100000 in
set_option maxHeartbeats 1000000 in
theorem addSec_any (b : Nat) (z s q : Int) (h0 : 0 ≤ z) (h1 : z < 1000000000) (hs : -20000000000 ≤ s ∧ s ≤ 20000000000) (hq : -20000000000 ≤ q ∧ q ≤ 20000000000) (w : World) (hc : w.cell? ⟨b, 0, none⟩ = some (.int .u64 z)) (hs : w.cell? ⟨b, 1, none⟩ = some (.int .i64 s)) (hf : w.frozen? ⟨b, 1, none⟩ = false) :
    Calls Try.prog 44 #[.pointer (some ⟨b, 0, none⟩), .int .i64 q] w fun e w' => e = .returned (.tuple #[]) ∧ w' = w.setCell ⟨b, 1, none⟩ (.int .i64 (s + q)) := by
  have hm := mono_mask z h0 h1
  by_cases hp : 0 < q
  · have g1 : s < s + q := by omega
    go_enter Try.func44, Try.ntmps44
    go_wp2_with fail
    go_end0
    exact ⟨rfl, rfl⟩
  · have g1 : ¬ s < s + q := by omega
    go_enter Try.func44, Try.ntmps44
    go_wp2_with fail
    go_end0
    exact ⟨rfl, rfl⟩

theorem heap_at (w : World) (o : Obj) (i : Nat) (h : i = w.heap.size) : (w.alloc o).heap[i]? = some o := by
  subst h; exact heap_alloc_new w o
theorem size52 : (Try.prog.info? 52).map (·.size) = some 3 := by kernel_rfl
theorem below2 (w : World) (o1 o2 : Obj) : Below w.heap.size w ((w.alloc o1).alloc o2) := ((Below.refl _ _).alloc (Nat.le_refl _) _).alloc (by simp) _
set_option maxRecDepth 100000 in
set_option maxHeartbeats 1000000 in
theorem add_core (z s q r d : Int) (hq : d.tdiv 1000000000 = q) (hr : d.tmod 1000000000 = r) (h0 : 0 ≤ z) (h1 : z < 1000000000) (hs : -10000000000 ≤ s ∧ s ≤ 10000000000) (hq' : -10000000000 ≤ q ∧ q ≤ 10000000000) (hr' : -1000000000 < r ∧ r < 1000000000) (z' q' : Int) (hz' : (1000000000 ≤ z + r ∧ z' = z + r - 1000000000 ∧ q' = q + 1) ∨ (0 ≤ z + r ∧ z + r < 1000000000 ∧ z' = z + r ∧ q' = q) ∨ (z + r < 0 ∧ z' = z + r + 1000000000 ∧ q' = q - 1)) (w : World) :
    Calls Try.prog 30 #[.agg #[.int .u64 z, .int .i64 s, .pointer none], .int .i64 d] w fun e w' => e = .returned (.agg #[.int .u64 z', .int .i64 (s + q'), .pointer none]) ∧ Below w.heap.size w w' := by
  have hm := andnot_mask z h0 h1
  have hz0 : 0 ≤ z' ∧ z' < 1000000000 := by omega
  have ho := or_zero z' hz0.1 hz0.2
  have ho2 := mono_mask z' hz0.1 hz0.2
  rcases hz' with ⟨g1, rfl, rfl⟩ | ⟨g0, g1, rfl, rfl⟩ | ⟨g1, rfl, rfl⟩
  all_goals
    obtain ⟨hz1, hz2⟩ := hz0
    go_enter Try.func30, Try.ntmps30
    go_wp2_with (first | (go_at_call 43; refine (nsec_any w.heap.size z h0 h1 _ ?_).mono ?_) | fail)
    focus (simp [go_sem]; done)
    rintro e w1 ⟨rfl, rfl⟩
    go_wp2_with (first | (go_at_call 44; refine (addSec_any w.heap.size _ s _ hz1 hz2 (by omega) (by omega) _ ?_ ?_ ?_).mono ?_) | fail)
    focus (simp [go_sem]; done)
    focus (simp [go_sem]; done)
    focus (simp [go_sem]; done)
    rintro e w1 ⟨rfl, rfl⟩
    go_wp2_with fail
    refine bodyPost_ret (results_cell_row rfl _ _ (w.heap.size + 1) 52 _ _ _ rfl (heap_at _ _ _ (by simp)) Try.underlying52 rfl size52) rfl ?_
    exact ⟨rfl, below2 _ _ _⟩
/-- 'Add'. -/
theorem tadd_any (x d : Int) (hx : -4611686018427387904 ≤ x ∧ x ≤ 4611686018427387904) (hd : -4611686018427387904 ≤ d ∧ d ≤ 4611686018427387904) (w : World) :
    Calls Try.prog 30 #[T x, .int .i64 d] w fun e w' => e = .returned (T (x + d)) ∧ Below w.heap.size w w' := by
  have e1 := Int.mul_tdiv_add_tmod d 1000000000
  have e2 : -1000000000 < d.tmod 1000000000 ∧ d.tmod 1000000000 < 1000000000 := ⟨Int.lt_tmod_of_pos d (by decide), Int.tmod_lt_of_pos d (by decide)⟩
  have e3 : (x + d) / 1000000000 = x / 1000000000 + ((x + d) / 1000000000 - x / 1000000000) := by omega
  unfold T
  rw [e3]
  exact add_core _ _ _ _ d rfl rfl (by omega) (by omega) (by omega) (by omega) e2 _ _ (by omega) w
end Go.Proofs.Qxb6616364a
