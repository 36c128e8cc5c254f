/-
  THE ROW of 'FnClockHoldsExactlyLinesUpToEntry': the guide's frame (howto/shells) at this function's parameters: three arrays by value, six integers.
-/
import Derived.Test.Qxb6616202aRows
import Derived.WalkKit
import Derived.ProofKit
import Derived.OpenShut
import Derived.ShutString
import Derived.ChangeOld
import Derived.Below
import Derived.Test.Qxb6616202aWalk
namespace Go.Proofs.Qxb6616202a.clockLaw
open Go.ChangeShapes Go.WideShapes Go.ChangeAt Go.RowKit
set_option linter.unusedVariables false

theorem own : ownKnob Try.prog.godebug = none := by kernel_rfl
theorem laidOut : laidOutB Try.prog = true := by kernel_rfl

/-- An array of integers that came in by value. -/
theorem open_array {P : Program} {W : World} {H : Type} {enc : TypeId × Value → H} {t e : TypeId} {n : Nat} {k : IntKind} (ht : P.underlying t = some (.array n e)) (he : P.underlying e = some (.int k)) (hce : P.cellsOf e = 1) (hct : P.cellsOf t = n)
    {r : Reach} {b0 : Nat} {v : Value} (hv : Value.okWide P W r b0 t v) {base : Nat} {spare : Nat → Bool} {held : Bool} {d : DataW H} {ps : List MemPlace} (h : DataW.Trod enc P W base spare held t v d ps) :
    ∃ (cs : Array Value) (T : Nat → Int), v = .agg cs ∧ cs.size = n ∧ (∀ i, i < n → cs[i]? = some (.int k (T i))) ∧ ∀ i, i < n → (Lit.int k (T i)).wf = true := by
  simp only [Value.okWide, ht] at hv
  obtain ⟨cs, rfl, hsz, _⟩ := hv
  obtain ⟨fuel, hf⟩ := h
  obtain ⟨xs, m, _, _, _, hl, hx⟩ := DataW.trod_array ht hf
  have each : ∀ i, i < n → ∃ a : Int, cs[i]? = some (.int k a) ∧ (Lit.int k a).wf = true := by
    intro i hi
    have h1 := hx i hi
    rw [hce, List.getElem?_eq_getElem (by omega)] at h1
    obtain ⟨a, e1, _, wa⟩ := DataW.trod_int he h1
    refine ⟨a, ?_, wa⟩
    have e2 := congrArg (fun l : List Value => l[0]?) e1
    simpa [Value.cells, List.getElem?_take, List.getElem?_drop] using e2
  refine ⟨cs, fun i => if hi : i < n then Classical.choose (each i hi) else 0, rfl, by rw [hsz, hct], fun i hi => ?_, fun i hi => ?_⟩
  · dsimp only; rw [dif_pos hi]; exact (Classical.choose_spec (each i hi)).1
  · dsimp only; rw [dif_pos hi]; exact (Classical.choose_spec (each i hi)).2

theorem five_of {cs : Array Value} {k : IntKind} {T : Nat → Int} (hs : cs.size = 5) (h : ∀ i, i < 5 → cs[i]? = some (.int k (T i))) : cs = #[.int k (T 0), .int k (T 1), .int k (T 2), .int k (T 3), .int k (T 4)] := by
  apply Array.ext_getElem?
  intro i
  by_cases hi : i < 5
  · rw [h i hi]; exact (fives (aT := T) k i hi).symm
  · rw [Array.getElem?_eq_none (by omega), Array.getElem?_eq_none (by simp; omega)]

set_option maxRecDepth 100000 in
theorem lifted (os : Os) (started : os.Started) (H : Type) (enc : TypeId × Value → H) :
    ReturnsInHanded {} Try.checked os 3 .any (Rows.fnClockHoldsExactlyLinesUpToEntrySpec.pre6 enc Try.prog Try.f3 Rows.fnClockHoldsExactlyLinesUpToEntryRow.domain false) (Rows.fnClockHoldsExactlyLinesUpToEntrySpec.post enc Try.prog Try.f3 false true false false) := by
  refine returnsInHanded_of_change (C := Try.checked) own started (by kernel_rfl) Try.func3
    (ChangeSpec.witness6 (enc := enc) (C := Try.checked) false ⟨#[], #[.agg (Array.replicate 32 (.int .i64 0)), .int .i32 0, .int .i64 0, .agg (Array.replicate 5 (.int .i32 0)), .agg (Array.replicate 5 (.int .i64 0)), .int .u8 0, .int .i64 0, .int .i64 0, .int .i32 0], []⟩ 8 (by kernel_rfl) (by kernel_rfl) (by kernel_rfl) (by kernel_rfl)) ?_
  intro W base args ds gs before hval0 hW hcnd _
  have hval : ∀ (j : Nat) t v, Try.f3.params[j]? = some t → args[j]? = some v → Value.okWide Try.prog W .any base t v := hval0
  have hW' := hW
  obtain ⟨p, q, hA0, hV, rfl, hfz, hnd⟩ := hW
  have hA : DataW.TrodAll enc Try.prog W 0 (fun _ => true) true Try.f3.params.toList args.toList ds p := hA0
  rw [Try.params3] at hA hval
  obtain ⟨v0, vs0, d0, ds0, p0, q0, hargs, rfl, rfl, h0, r0⟩ := trodAll_cons hA
  obtain ⟨v1, vs1, d1, ds1, p1, q1, rfl, rfl, rfl, h1, r1⟩ := trodAll_cons r0
  obtain ⟨v2, vs2, d2, ds2, p2, q2, rfl, rfl, rfl, h2, r2⟩ := trodAll_cons r1
  obtain ⟨v3, vs3, d3, ds3, p3, q3, rfl, rfl, rfl, h3, r3⟩ := trodAll_cons r2
  obtain ⟨v4, vs4, d4, ds4, p4, q4, rfl, rfl, rfl, h4, r4⟩ := trodAll_cons r3
  obtain ⟨v5, vs5, d5, ds5, p5, q5, rfl, rfl, rfl, h5, r5⟩ := trodAll_cons r4
  obtain ⟨v6, vs6, d6, ds6, p6, q6, rfl, rfl, rfl, h6, r6⟩ := trodAll_cons r5
  obtain ⟨v7, vs7, d7, ds7, p7, q7, rfl, rfl, rfl, h7, r7⟩ := trodAll_cons r6
  obtain ⟨v8, vs8, d8, ds8, p8, q8, rfl, rfl, rfl, h8, r8⟩ := trodAll_cons r7
  obtain ⟨rfl, rfl, rfl⟩ := trodAll_nil r8
  obtain rfl : args = #[v0, v1, v2, v3, v4, v5, v6, v7, v8] := by cases args; simp_all
  obtain ⟨rfl, rfl⟩ := trodVars_none hV
  have k0 := h0
  have k3 := h3
  have k4 := h4
  have lt0 : ∀ x ∈ p0, x.block < W.heap.size := by obtain ⟨m, hm⟩ := k0; exact DataW.trod_lt m _ _ _ hm
  have lt3 : ∀ x ∈ p3, x.block < W.heap.size := by obtain ⟨m, hm⟩ := k3; exact DataW.trod_lt m _ _ _ hm
  have lt4 : ∀ x ∈ p4, x.block < W.heap.size := by obtain ⟨m, hm⟩ := k4; exact DataW.trod_lt m _ _ _ hm
  obtain ⟨CT, T, rfl, sT, cT, _⟩ := open_array Try.underlying22 Try.underlying3 (by kernel_rfl) (by kernel_rfl) (hval 0 22 v0 rfl rfl) h0
  obtain ⟨a1, rfl, rfl, rfl, w1⟩ := open_int Try.underlying21 (hval 1 21 v1 rfl rfl) h1
  obtain ⟨a2, rfl, rfl, rfl, w2⟩ := open_int Try.underlying3 (hval 2 3 v2 rfl rfl) h2
  obtain ⟨CA, aT, rfl, sA, cA, wA⟩ := open_array Try.underlying23 Try.underlying21 (by kernel_rfl) (by kernel_rfl) (hval 3 23 v3 rfl rfl) h3
  obtain ⟨CL, aL, rfl, sL, cL, _⟩ := open_array Try.underlying24 Try.underlying3 (by kernel_rfl) (by kernel_rfl) (hval 4 24 v4 rfl rfl) h4
  obtain ⟨a5, rfl, rfl, rfl, w5⟩ := open_int Try.underlying5 (hval 5 5 v5 rfl rfl) h5
  obtain ⟨a6, rfl, rfl, rfl, w6⟩ := open_int Try.underlying3 (hval 6 3 v6 rfl rfl) h6
  obtain ⟨a7, rfl, rfl, rfl, w7⟩ := open_int Try.underlying3 (hval 7 3 v7 rfl rfl) h7
  obtain ⟨a8, rfl, rfl, rfl, w8⟩ := open_int Try.underlying21 (hval 8 21 v8 rfl rfl) h8
  clear hA0 hval0
  have eA := five_of sA cA
  have eL := five_of sL cL
  have b1 := bounds_i32 w1
  have b8 := bounds_i32 w8
  have bA : ∀ i, i < 5 → -2147483648 ≤ aT i ∧ aT i < 2147483648 := fun i hi => by have := bounds_i32 (wA i hi); omega
  have b5 := bounds_u8 w5
  have e5 : a5 = ((a5.toNat : Nat) : Int) := by omega
  have hwalk := walk T aT aL CT sT cT a1 a2 a5.toNat a6 a7 a8 (by omega) bA (by omega) W
  rw [← eA, ← eL, ← e5] at hwalk
  refine hwalk.mono fun e W' ⟨he, bel⟩ => ?_
  subst he
  exact ⟨_, rfl, _, _, _, [], _, [], hW', trodAll_mk1 (shut_bool Try.underlying4 _), (trodAll_cons_mk (Below.trod laidOut (by kernel_rfl) (of_decide_eq_true (by kernel_rfl)) k0 bel lt0) (trodAll_cons_mk (shut_int Try.underlying21 w1) (trodAll_cons_mk (shut_int Try.underlying3 w2) (trodAll_cons_mk (Below.trod laidOut (by kernel_rfl) (of_decide_eq_true (by kernel_rfl)) k3 bel lt3) (trodAll_cons_mk (Below.trod laidOut (by kernel_rfl) (of_decide_eq_true (by kernel_rfl)) k4 bel lt4) (trodAll_cons_mk (shut_int Try.underlying5 w5) (trodAll_cons_mk (shut_int Try.underlying3 w6) (trodAll_cons_mk (shut_int Try.underlying3 w7) (trodAll_cons_mk (shut_int Try.underlying21 w8) trodAll_mk0))))))))), rfl, bel.frame _, fun h => by cases h⟩

theorem over : Rows.fnClockHoldsExactlyLinesUpToEntryRow.holds Try.pinned (OpenSpec.ofChange Rows.fnClockHoldsExactlyLinesUpToEntrySpec) :=
  OpenClaim.holds_of_wide 3 Try.f3 rfl rfl rfl rfl rfl rfl rfl ⟨rfl, rfl, rfl, rfl, rfl⟩ rfl rfl rfl rfl rfl (by kernel_rfl) Try.func3 (by kernel_rfl)
    (of_decide_eq_true (by kernel_rfl)) (by unfold Func.isWrapper; first | (rw [if_pos (by decide +kernel)]; kernel_rfl) | (rw [if_neg (by decide +kernel)]; exact ⟨rfl, rfl⟩))
    (fun os started H enc _ => lifted os started H enc)

/-- ████ THE STATEMENT ████ -/
theorem proved : Rows.FnClockHoldsExactlyLinesUpToEntrySaid := over
end Go.Proofs.Qxb6616202a.clockLaw
