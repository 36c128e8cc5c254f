/-
  THE WALKS OF math/bits.Mul64 (53), (*PCG).next (75), (*PCG).Uint64 (74), (*Rand).Uint64 (52).
-/
import Derived.Test.Qxb6616210aRows
import Derived.Test.Qxb6616210aPcg
import Derived.WalkKit
import Derived.WalkLawsBesides
import Derived.WalkSpells
import Derived.WalkSmall
import Derived.Deep.QuietTactic
import Derived.BigQuiet
import Derived.Below
import Derived.Lib.Mul64
import Derived.Laws.Bits64
import Derived.Laws.Bits64b
import Derived.Laws.Externs
import Derived.Laws.Rows
namespace Go.Proofs.Qxb6616210a
open Go.RowKit Go.Lib

theorem hide {p : Prop} (h : p) : Hid p := h
theorem unhide {p : Prop} (h : Hid p) : p := h

/-! ### bits.Mul64: after the shelf's own walk (Derived/Shelf/Bits/Mul64.lean), at this dump -/
namespace Mul
theorem maskN (a : Nat) (ha : a < 18446744073709551616) : bits .and .u64 (a : Int) 4294967295 = ((a % 4294967296 : Nat) : Int) := by
  have h := bits_and_u64_nat a 4294967295 ha (by omega)
  have e : a &&& 4294967295 = a % 4294967296 := Nat.and_two_pow_sub_one_eq_mod a 32
  rw [e] at h
  exact h
theorem divN (a : Nat) : (a : Int) / 4294967296 = ((a / 4294967296 : Nat) : Int) := by omega
theorem mulN (a b : Nat) : (a : Int) * (b : Int) = ((a * b : Nat) : Int) := (Int.natCast_mul a b).symm
theorem addN (a b : Nat) : (a : Int) + (b : Int) = ((a + b : Nat) : Int) := (Int.natCast_add a b).symm
theorem wrapN (a : Nat) (ha : a < 18446744073709551616) : IntKind.u64.wrap (a : Int) = (a : Int) := by rw [IntKind.wrap_u64]; omega
theorem wrapM (a : Nat) : IntKind.u64.wrap (a : Int) = ((a % 18446744073709551616 : Nat) : Int) := by rw [IntKind.wrap_u64]; omega
end Mul

set_option maxHeartbeats 1000000 in
theorem mul64 (x y : Nat) (hx : x < 18446744073709551616) (hy : y < 18446744073709551616) (w : World) :
    Calls Try.prog 53 #[.int .u64 x, .int .u64 y] w fun e w' => e = .returned (.tuple #[.int .u64 ((x * y / 18446744073709551616 : Nat) : Int), .int .u64 ((x * y % 18446744073709551616 : Nat) : Int)]) ∧ w' = w := by
  obtain ⟨bd, bt, bw, hhi⟩ := Lib.mul64_hi x y hx hy
  have ba := Lib.half_mul_le (a := x / 4294967296) (b := y / 4294967296) (by omega) (by omega)
  have bb := Lib.half_mul_le (a := x / 4294967296) (b := y % 4294967296) (by omega) (by omega)
  have bc := Lib.half_mul_le (a := x % 4294967296) (b := y / 4294967296) (by omega) (by omega)
  have ba' : x / 4294967296 * (y / 4294967296) < 18446744073709551616 := by omega
  have bb' : x / 4294967296 * (y % 4294967296) < 18446744073709551616 := by omega
  have bc' : x % 4294967296 * (y / 4294967296) < 18446744073709551616 := by omega
  have bh1 : x / 4294967296 * (y / 4294967296) + (x / 4294967296 * (y % 4294967296) + x % 4294967296 * (y % 4294967296) / 4294967296) / 4294967296 < 18446744073709551616 := by omega
  have bh : x / 4294967296 * (y / 4294967296) + (x / 4294967296 * (y % 4294967296) + x % 4294967296 * (y % 4294967296) / 4294967296) / 4294967296 + ((x / 4294967296 * (y % 4294967296) + x % 4294967296 * (y % 4294967296) / 4294967296) % 4294967296 + x % 4294967296 * (y / 4294967296)) / 4294967296 < 18446744073709551616 := by
    rw [hhi]; exact Nat.div_lt_of_lt_mul (Nat.lt_of_lt_of_le (Nat.mul_lt_mul'' hx hy) (by decide))
  go_enter Try.func53, Try.ntmps53
  go_wp2
  simp only [Mul.maskN x hx, Mul.maskN y hy, Mul.divN, Mul.mulN, Mul.addN, Mul.wrapN _ bd, Mul.wrapN _ bb', Mul.wrapN _ bt, Mul.maskN _ bt, Mul.wrapN _ bc', Mul.wrapN _ bw, Mul.wrapN _ ba', Mul.wrapN _ bh1, Mul.wrapN _ bh, Mul.wrapM (x * y)]
  rw [hhi]
  go_ret2
  exact ⟨rfl, rfl⟩

/-! ### bits.Add64: the model's own entry -/
theorem add64 (x y c : Int) (hx : 0 ≤ x) (hy : 0 ≤ y) (hc0 : 0 ≤ c) (hc : c ≤ 1) (w : World) : (callFunc 76 #[.int .u64 x, .int .u64 y, .int .u64 c]).run Try.prog w =
    .ok (.value (.tuple #[.int .u64 ((x + y + c) % 18446744073709551616), .int .u64 ((x + y + c) / 18446744073709551616)])) w := by
  rw [run_callFunc_extern Try.func76 (by kernel_rfl) (by kernel_rfl) (by kernel_rfl) (e := add64Entry) (by kernel_rfl), run_add64 x y c hx hy hc0 hc]
  rfl
theorem add64_0 (x y : Int) (hx : 0 ≤ x) (hy : 0 ≤ y) (w : World) : (callFunc 76 #[.int .u64 x, .int .u64 y, .int .u64 0]).run Try.prog w =
    .ok (.value (.tuple #[.int .u64 ((x + y) % 18446744073709551616), .int .u64 ((x + y) / 18446744073709551616)])) w := by
  simpa using add64 x y 0 hx hy (Int.le_refl 0) (by decide) w

theorem arith_aux (a b c d i j : Nat) :
    (((a : Int) + ((c : Int) % 18446744073709551616 + (d : Int) % 18446744073709551616) % 18446744073709551616) % 18446744073709551616 + i + ((b : Int) + j) / 18446744073709551616) % 18446744073709551616
      = (((a + (c + d) + i + (b + j) / 18446744073709551616) % 18446744073709551616 : Nat) : Int) := by omega
theorem split_div (H L : Nat) (hL : L < 18446744073709551616) : (H * 18446744073709551616 + L) / 18446744073709551616 = H ∧ (H * 18446744073709551616 + L) % 18446744073709551616 = L := by omega
/-- The state's two halves as 'next' reckons them. -/
theorem next_arith (hi lo a b : Nat) (ha : a = lo * 4865540595714422341 / 18446744073709551616) (hb : b = lo * 4865540595714422341 % 18446744073709551616) :
    (IntKind.u64.wrap ((a : Int) + IntKind.u64.wrap (IntKind.u64.wrap ((hi : Int) * 4865540595714422341) + IntKind.u64.wrap ((lo : Int) * 2549297995355413924))) + 6364136223846793005 + ((b : Int) + 1442695040888963407) / 18446744073709551616) % 18446744073709551616
      = ((Pcg.nx (hi * 18446744073709551616 + lo) / 18446744073709551616 : Nat) : Int) ∧
    ((b : Int) + 1442695040888963407) % 18446744073709551616 = ((Pcg.nx (hi * 18446744073709551616 + lo) % 18446744073709551616 : Nat) : Int) := by
  rw [Pcg.nx_halves, ← ha, ← hb]
  obtain ⟨d1, d2⟩ := split_div ((a + (hi * 4865540595714422341 + lo * 2549297995355413924) + 6364136223846793005 + (b + 1442695040888963407) / 18446744073709551616) % 18446744073709551616) ((b + 1442695040888963407) % 18446744073709551616) (Nat.mod_lt _ (by decide))
  rw [d1, d2]
  refine ⟨?_, rfl⟩
  rw [← arith_aux]
  simp only [IntKind.wrap_u64, Int.natCast_mul]
  rfl

/-- Nothing has turned but blocks that meet F, and new ones. -/
structure Kept (F : Nat → Prop) (w w' : World) : Prop where
  os : w'.os = w.os
  tape : w'.tape = w.tape
  output : w'.output = w.output
  size : w.heap.size ≤ w'.heap.size
  block : ∀ k, k < w.heap.size → ¬ F k → w'.heap[k]? = w.heap[k]?

theorem Kept.refl (F : Nat → Prop) (w : World) : Kept F w w := ⟨rfl, rfl, rfl, Nat.le_refl _, fun _ _ _ => rfl⟩
theorem Kept.trans {F G : Nat → Prop} {a b c : World} (h : Kept F a b) (k : Kept G b c) (hG : ∀ i, i < a.heap.size → G i → F i) : Kept F a c :=
  ⟨k.os.trans h.os, k.tape.trans h.tape, k.output.trans h.output, Nat.le_trans h.size k.size, fun i hi hF =>
    (k.block i (Nat.lt_of_lt_of_le hi h.size) (fun hg => hF (hG i hi hg))).trans (h.block i hi hF)⟩
theorem Kept.mono {F G : Nat → Prop} {a b : World} (h : Kept F a b) (hG : ∀ i, i < a.heap.size → F i → G i) : Kept G a b :=
  ⟨h.os, h.tape, h.output, h.size, fun i hi hF => h.block i hi (fun hg => hF (hG i hi hg))⟩
theorem Kept.drewN {F : Nat → Prop} {a w : World} (h : Kept F a w) (n : Nat) : Kept F a (w.drewN n) := ⟨h.os, h.tape, h.output, h.size, h.block⟩
theorem Kept.drew {F : Nat → Prop} {a w : World} (h : Kept F a w) : Kept F a w.drew := ⟨h.os, h.tape, h.output, h.size, h.block⟩
theorem Kept.setCell {F : Nat → Prop} {a w : World} (h : Kept F a w) {p : Addr} (hp : p.block < a.heap.size → F p.block) (u : Value) : Kept F a (w.setCell p u) :=
  ⟨h.os, h.tape, h.output, by simpa [World.setCell] using h.size, fun i hi hF => by
    rw [Below.heap_setCell _ _ _ _ (fun e => hF (by rw [e]; exact hp (by rw [← e]; exact hi)))]
    exact h.block i hi hF⟩
theorem Kept.alloc {F : Nat → Prop} {a w : World} (h : Kept F a w) (o : Obj) : Kept F a (w.alloc o) :=
  ⟨h.os, h.tape, h.output, by simp; exact Nat.le_succ_of_le h.size, fun i hi hF => by
    rw [Below.heap_alloc _ _ _ (Nat.lt_of_lt_of_le hi h.size)]
    exact h.block i hi hF⟩
theorem Kept.below {F : Nat → Prop} {w w' : World} (h : Kept F w w') (B : Nat) (hB : B ≤ w.heap.size) (hF : ∀ i, i < B → ¬ F i) : Below B w w' :=
  ⟨h.os, h.tape, h.output, h.size, fun k hk => h.block k (Nat.lt_of_lt_of_le hk hB) (hF k hk)⟩
theorem Kept.of_below {B : Nat} {w w' : World} (h : Below B w w') : Kept (fun k => B ≤ k) w w' :=
  ⟨h.os, h.tape, h.output, h.size, fun k _ hF => h.block k (Nat.lt_of_not_le hF)⟩
theorem Kept.at {F : Nat → Prop} {w w' : World} (h : Kept F w w') {k : Nat} {o : Obj} (hk : w.heap[k]? = some o) (hF : ¬ F k) : w'.heap[k]? = some o := by
  have hlt : k < w.heap.size := by
    rcases Nat.lt_or_ge k w.heap.size with h | h
    · exact h
    · rw [Array.getElem?_eq_none h] at hk; cases hk
  rw [h.block k hlt hF, hk]

/-- The source's state lies in block bp. -/
def PcgAt (w : World) (bp S : Nat) : Prop :=
  w.heap[bp]? = some (.cells #[.int .u64 ((S / 18446744073709551616 : Nat) : Int), .int .u64 ((S % 18446744073709551616 : Nat) : Int)] 78)

set_option maxHeartbeats 1000000 in
theorem next_halves (bp hi lo : Nat) (_hh : hi < 18446744073709551616) (hl : lo < 18446744073709551616) (w : World) (h : w.heap[bp]? = some (.cells #[.int .u64 hi, .int .u64 lo] 78)) (S' : Nat) (hS' : S' = Pcg.nx (hi * 18446744073709551616 + lo)) :
    Calls Try.prog 75 #[.pointer (some ⟨bp, 0, none⟩)] w fun e w' => e = .returned (.tuple #[.int .u64 ((S' / 18446744073709551616 : Nat) : Int), .int .u64 ((S' % 18446744073709551616 : Nat) : Int)]) ∧ PcgAt w' bp S' ∧ Kept (· = bp) w w' := by
  have c0 : w.cell? ⟨bp, 0, none⟩ = some (.int .u64 hi) := by rw [cell_of_row _ _ _ _ _ _ h]; rfl
  have c1 : w.cell? ⟨bp, 1, none⟩ = some (.int .u64 lo) := by rw [cell_of_row _ _ _ _ _ _ h]; rfl
  have f0 := frozen_of_row w bp 0 _ _ h
  have f1 := frozen_of_row w bp 1 _ _ h
  have HH := hide h
  obtain ⟨a, ha⟩ : ∃ a, a = lo * 4865540595714422341 / 18446744073709551616 := ⟨_, rfl⟩
  obtain ⟨b, hb⟩ : ∃ b, b = lo * 4865540595714422341 % 18446744073709551616 := ⟨_, rfl⟩
  have hm := mul64 lo 4865540595714422341 hl (by omega) w
  rw [← ha, ← hb] at hm
  obtain ⟨er1, er2⟩ := next_arith hi lo a b ha hb
  rw [← hS'] at er1 er2
  obtain ⟨X, hX⟩ : ∃ X, IntKind.u64.wrap ((a : Int) + IntKind.u64.wrap (IntKind.u64.wrap ((hi : Int) * 4865540595714422341) + IntKind.u64.wrap ((lo : Int) * 2549297995355413924))) = X := ⟨_, rfl⟩
  have hX0 : 0 ≤ X := by rw [← hX, IntKind.wrap_u64]; omega
  rw [hX] at er1
  have E1 := hide er1
  have E2 := hide er2
  have Hm := hide hm
  have hb2 : b < 18446744073709551616 := by omega
  clear h hm ha hb er1 er2
  have ad1 := fun w => add64_0 (b : Int) 1442695040888963407 (by omega) (by decide) w
  have ad2 := fun w => add64 X 6364136223846793005 (((b : Int) + 1442695040888963407) / 18446744073709551616) hX0 (by decide) (by omega) (by omega) w
  go_enter Try.func75, Try.ntmps75
  go_wp2_with (go_at_call 53; refine (unhide Hm).mono ?_; rintro e w' ⟨rfl, rfl⟩)
  go_quiet (fail)
  go_wp2_with fail
  go_ret2
  refine ⟨by rw [unhide E1, unhide E2]; rfl, ?_, ?_⟩
  · unfold PcgAt
    rw [← unhide E1, ← unhide E2]
    exact heap_setCell_same _ _ 0 _ _ _ (heap_setCell_same _ _ 1 _ _ _ (unhide HH))
  · refine Kept.setCell (Kept.setCell ((Kept.refl _ _).drewN _) ?_ _) ?_ _ <;> (intro _; rfl)

theorem PcgAt.halves {w : World} {bp S : Nat} (h : PcgAt w bp S) : w.heap[bp]? = some (.cells #[.int .u64 ((S / 18446744073709551616 : Nat) : Int), .int .u64 ((S % 18446744073709551616 : Nat) : Int)] 78) := h
theorem PcgAt.keep {w w' : World} {bp S : Nat} (h : PcgAt w bp S) {F : Nat → Prop} (hk : Kept F w w') (hF : ¬ F bp) : PcgAt w' bp S := hk.at h hF

theorem next_any (bp S : Nat) (hS : S < Pcg.W128) (w : World) (h : PcgAt w bp S) (S' : Nat) (hS' : S' = Pcg.nx S) :
    Calls Try.prog 75 #[.pointer (some ⟨bp, 0, none⟩)] w fun e w' => e = .returned (.tuple #[.int .u64 ((S' / 18446744073709551616 : Nat) : Int), .int .u64 ((S' % 18446744073709551616 : Nat) : Int)]) ∧ PcgAt w' bp S' ∧ Kept (· = bp) w w' :=
  next_halves bp _ _ (by unfold Pcg.W128 at hS; omega) (Nat.mod_lt _ (by decide)) w h S' (by rw [hS', Nat.div_add_mod'])

theorem shr32 (a : Nat) : (a : Int) / 4294967296 = ((a / 4294967296 : Nat) : Int) := by omega
theorem shr48 (a : Nat) : (a : Int) / 281474976710656 = ((a / 281474976710656 : Nat) : Int) := by omega

set_option maxHeartbeats 1000000 in
theorem pcg_uint64 (bp S : Nat) (hS : S < Pcg.W128) (w : World) (h : PcgAt w bp S) (S' : Nat) (hS' : S' = Pcg.nx S) :
    Calls Try.prog 74 #[.pointer (some ⟨bp, 0, none⟩)] w fun e w' => e = .returned (.int .u64 (Pcg.outN S' : Nat)) ∧ PcgAt w' bp S' ∧ Kept (· = bp) w w' := by
  have Hn := hide (next_any bp S hS w h S' hS')
  have hlt : S' < Pcg.W128 := by rw [hS']; exact Pcg.nx_lt S
  clear h hS'
  obtain ⟨hi, ehi⟩ : ∃ hi, hi = S' / 18446744073709551616 := ⟨_, rfl⟩
  obtain ⟨lo, elo⟩ : ∃ lo, lo = S' % 18446744073709551616 := ⟨_, rfl⟩
  have hh : hi < 18446744073709551616 := by unfold Pcg.W128 at hlt; omega
  have hl : lo < 18446744073709551616 := by omega
  have Eo : Hid (Pcg.outN S' = Pcg.out hi lo) := by rw [ehi, elo]; exact hide rfl
  rw [← ehi, ← elo] at Hn
  have e1 : bits .xor .u64 (hi : Int) ((hi : Int) / 4294967296) = (Pcg.h1 hi : Nat) := by rw [shr32, bits_xor_u64_nat _ _ hh (by omega)]; rfl
  have e2 : IntKind.u64.wrap ((Pcg.h1 hi : Nat) * 15750249268501108917) = (Pcg.h2 hi : Nat) := by rw [IntKind.wrap_u64]; unfold Pcg.h2; omega
  have l2 : Pcg.h2 hi < 18446744073709551616 := Nat.mod_lt _ (by decide)
  have e3 : bits .xor .u64 (Pcg.h2 hi : Int) ((Pcg.h2 hi : Int) / 281474976710656) = (Pcg.h3 hi : Nat) := by rw [shr48, bits_xor_u64_nat _ _ l2 (by omega)]; rfl
  have e4 : bits .or .u64 (lo : Int) 1 = ((lo ||| 1 : Nat) : Int) := bits_or_u64_nat lo 1 hl (by decide)
  have e5 : IntKind.u64.wrap ((Pcg.h3 hi : Int) * ((lo ||| 1 : Nat) : Int)) = (Pcg.out hi lo : Nat) := by rw [Mul.mulN, Mul.wrapM]; rfl
  clear ehi elo hlt hS
  go_enter Try.func74, Try.ntmps74
  go_wp2_with (go_at_call 75; refine (unhide Hn).mono ?_; rintro e w' ⟨rfl, hP, hK⟩)
  go_ret
  exact ⟨by rw [unhide Eo]; rfl, hP, hK⟩

/-- A *Rand whose source is the PCG at bp. -/
def RandAt (w : World) (bR bp : Nat) : Prop := w.heap[bR]? = some (.cells #[.iface 52 (.pointer (some ⟨bp, 0, none⟩))] 76)
theorem RandAt.keep {w w' : World} {bR bp : Nat} (h : RandAt w bR bp) {F : Nat → Prop} (hk : Kept F w w') (hF : ¬ F bR) : RandAt w' bR bp := hk.at h hF

theorem method_u64 (a : Addr) (w : World) : (method 221 52 (.pointer (some a)) "Uint64").run Try.prog w = .ok (74, .pointer (some a)) w := by kernel_rfl
theorem types_size : Try.prog.types.size = 121 := by kernel_rfl

set_option maxHeartbeats 1000000 in
theorem rand_uint64 (bR bp S : Nat) (hS : S < Pcg.W128) (w : World) (h : PcgAt w bp S) (hr : RandAt w bR bp) (S' : Nat) (hS' : S' = Pcg.nx S) :
    Calls Try.prog 52 #[.pointer (some ⟨bR, 0, none⟩)] w fun e w' => e = .returned (.int .u64 (Pcg.outN S' : Nat)) ∧ PcgAt w' bp S' ∧ Kept (· = bp) w w' := by
  have Hn := hide (pcg_uint64 bp S hS w h S' hS')
  have c0 : w.cell? ⟨bR, 0, none⟩ = some (.iface 52 (.pointer (some ⟨bp, 0, none⟩))) := by rw [cell_of_row _ _ _ _ _ _ hr]; rfl
  clear h hr hS' hS
  have hm := method_u64
  have ht := types_size
  go_enter Try.func52, Try.ntmps52
  go_wp2_with fail
  refine (unhide Hn).mono ?_
  rintro e w' ⟨rfl, hP, hK⟩
  go_wp2_with fail
  go_ret
  exact ⟨rfl, hP, hK⟩
end Go.Proofs.Qxb6616210a
