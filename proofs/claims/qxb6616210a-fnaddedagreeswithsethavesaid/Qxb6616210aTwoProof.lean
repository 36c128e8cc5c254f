/-
  THE PROOF OF Rows.FnAddedAgreesWithSetHaveSaid: the shell that the seat gives, its hole filled.
-/
import Derived.Test.Qxb6616210aRows
import Derived.WalkKit
import Derived.ProofKit
import Derived.OpenShut
import Derived.ShutString
import Derived.ChangeOld
import Derived.Below
import Derived.Test.Qxb6616210aTwoLaw
namespace Go.Proofs.Qxb6616210a.fnAddedAgreesWithSetHave
open Go.ChangeShapes Go.WideShapes Go.ChangeAt Go.RowKit Go.Lib
open Go.ChangeMaps (open_string shut_string)
set_option linter.unusedVariables false

theorem own : ownKnob Try.prog.godebug = none := by kernel_rfl
theorem laidOut : laidOutB Try.prog = true := by kernel_rfl

/-- WHAT THE WALK IS TOLD OF A SLICE OF INTEGERS THAT CAME IN: it is nil; or it leads to a row of 'cap' cells, the numbers 'zs' (the first 'len' are its elements, the rest its spare room), each fitting its kind. -/
def IsRow (k : IntKind) (w : World) (a : Option Addr) (len cap : Nat) (zs : List Int) : Prop :=
  (a = none ∧ len = 0 ∧ cap = 0 ∧ zs = []) ∨
  ∃ x, a = some x ∧ len ≤ cap ∧ cap ≤ maxLen ∧ zs.length = cap ∧ (∀ i, i < zs.length → w.cell? (x.add i) = some (.int k (zs.getD i 0))) ∧ ∀ n ∈ zs, (Lit.int k n).wf = true

/-! ### STEP 1: THE WALK: the Go text returns true, AND WRITES NOTHING THAT WAS THERE: 'Below w.heap.size w w'' (Derived/Below.lean: '.refl', '.alloc', '.drew', '.setCell' at a new block, '.trans'). Open each 'IsRow' by 'rcases' AHEAD of 'go_enter'; part every test ahead of the walk. -/
theorem wf_i64 {a : Int} (h : (Lit.int .i64 a).wf = true) : -9223372036854775808 ≤ a ∧ a ≤ 9223372036854775807 := by
  simp only [Lit.wf, Bool.and_eq_true, decide_eq_true_eq] at h
  have e1 : IntKind.i64.min = -9223372036854775808 := by decide
  have e2 : IntKind.i64.max = 9223372036854775807 := by decide
  omega
theorem wf_u64 {a : Int} (h : (Lit.int .u64 a).wf = true) : 0 ≤ a ∧ a < 18446744073709551616 := by
  simp only [Lit.wf, Bool.and_eq_true, decide_eq_true_eq] at h
  have e1 : IntKind.u64.min = 0 := by decide
  have e2 : IntKind.u64.max = 18446744073709551615 := by decide
  omega
theorem elems_of {w : World} {a3 : Option Addr} {len3 cap3 : Nat} {z3 : List Int} (w3 : IsRow .i64 w a3 len3 cap3 z3) : len3 ≤ 9223372036854775807 ∧ Elems w a3 len3 (fun i => z3.getD i 0) := by
  rcases w3 with ⟨rfl, rfl, rfl, rfl⟩ | ⟨x, rfl, hl, hm, hz, hc, _⟩
  · exact ⟨by omega, fun k hk => by omega⟩
  · refine ⟨by unfold maxLen at hm; omega, fun k hk => ?_⟩
    obtain ⟨xb, xo, xs⟩ := x
    have c0 := hc 0 (by omega)
    have c := hc k (by omega)
    have hs := World.cell?_spot c0
    simp only [Addr.add, if_true] at c hs
    subst hs
    have c' : w.cell? ⟨xb, xo + k, none⟩ = some (Value.int IntKind.i64 (z3.getD k 0)) := by
      by_cases e : k = 0
      · rw [if_pos e] at c; rw [e] at c ⊢; exact c
      · rw [if_neg e] at c; exact c
    exact ⟨xb, xo, rfl, block_lt_of_cell c', c'⟩
set_option maxRecDepth 100000 in
set_option maxHeartbeats 4000000 in
theorem walk (a0 : Int) (a1 : Int) (a2 : Int) (a3 : Int) (a4 : Option Addr) (len4 cap4 : Nat) (z4 : List Int) (a5 : Option Addr) (len5 cap5 : Nat) (z5 : List Int) (w : World) (w0 : (Lit.int .i64 a0).wf = true) (w1 : (Lit.int .u64 a1).wf = true) (w2 : (Lit.int .u64 a2).wf = true) (w3 : (Lit.int .i64 a3).wf = true) (w4 : IsRow .i64 w a4 len4 cap4 z4) (w5 : IsRow .i64 w a5 len5 cap5 z5) :
    Calls Try.prog 7 #[.int .i64 a0, .int .u64 a1, .int .u64 a2, .int .i64 a3, .slice a4 len4 cap4, .slice a5 len5 cap5] w fun e w' => e = .returned (.bool true) ∧ Below w.heap.size w w' := by
  have b0 := wf_i64 w0
  have b1 := wf_u64 w1
  have b2 := wf_u64 w2
  have b3 := wf_i64 w3
  obtain ⟨hl4, hE4⟩ := elems_of w4
  obtain ⟨hl5, hE5⟩ := elems_of w5
  clear w4 w5
  by_cases c1 : len4 + len5 ≤ 1048576
  rotate_left
  · have Hby := bytes7_any a0 a1 a2 a3 a4 a5 len4 cap4 len5 cap5 hl4 hl5 w
    rw [decide_eq_false c1] at Hby
    have Hb := hide Hby
    clear Hby hE4 hE5
    go_enter Try.func7, Try.ntmps7
    go_wp2_with fail
    refine (unhide Hb).mono ?_
    rintro e w9 ⟨rfl, rfl⟩
    go_wp2_with fail
    go_ret
    exact ⟨rfl, Below.refl _ _⟩
  by_cases c2 : len4 ≤ 65536
  rotate_left
  · have Hby := bytes7_any a0 a1 a2 a3 a4 a5 len4 cap4 len5 cap5 hl4 hl5 w
    rw [decide_eq_true c1] at Hby
    have Hb := hide Hby
    clear Hby hE4 hE5
    go_enter Try.func7, Try.ntmps7
    go_wp2_with fail
    refine (unhide Hb).mono ?_
    rintro e w9 ⟨rfl, rfl⟩
    go_wp2_with fail
    go_ret
    exact ⟨rfl, Below.refl _ _⟩
  by_cases c3 : len5 ≤ 65536
  rotate_left
  · have Hby := bytes7_any a0 a1 a2 a3 a4 a5 len4 cap4 len5 cap5 hl4 hl5 w
    rw [decide_eq_true c1] at Hby
    have Hb := hide Hby
    clear Hby hE4 hE5
    go_enter Try.func7, Try.ntmps7
    go_wp2_with fail
    refine (unhide Hb).mono ?_
    rintro e w9 ⟨rfl, rfl⟩
    go_wp2_with fail
    go_ret
    exact ⟨rfl, Below.refl _ _⟩
  by_cases c4 : a0 < 0
  · have Hby := bytes7_any a0 a1 a2 a3 a4 a5 len4 cap4 len5 cap5 hl4 hl5 w
    rw [decide_eq_true c1] at Hby
    have Hb := hide Hby
    clear Hby hE4 hE5
    go_enter Try.func7, Try.ntmps7
    go_wp2_with fail
    refine (unhide Hb).mono ?_
    rintro e w9 ⟨rfl, rfl⟩
    go_wp2_with fail
    go_ret
    exact ⟨rfl, Below.refl _ _⟩
  by_cases c5 : a0 ≤ 65536
  rotate_left
  · have Hby := bytes7_any a0 a1 a2 a3 a4 a5 len4 cap4 len5 cap5 hl4 hl5 w
    rw [decide_eq_true c1] at Hby
    have Hb := hide Hby
    clear Hby hE4 hE5
    go_enter Try.func7, Try.ntmps7
    go_wp2_with fail
    refine (unhide Hb).mono ?_
    rintro e w9 ⟨rfl, rfl⟩
    go_wp2_with fail
    go_ret
    exact ⟨rfl, Below.refl _ _⟩
  by_cases c6 : a3 < 0
  · have Hby := bytes7_any a0 a1 a2 a3 a4 a5 len4 cap4 len5 cap5 hl4 hl5 w
    rw [decide_eq_true c1] at Hby
    have Hb := hide Hby
    clear Hby hE4 hE5
    go_enter Try.func7, Try.ntmps7
    go_wp2_with fail
    refine (unhide Hb).mono ?_
    rintro e w9 ⟨rfl, rfl⟩
    go_wp2_with fail
    go_ret
    exact ⟨rfl, Below.refl _ _⟩
  by_cases c7 : a3 ≤ 16
  rotate_left
  · have Hby := bytes7_any a0 a1 a2 a3 a4 a5 len4 cap4 len5 cap5 hl4 hl5 w
    rw [decide_eq_true c1] at Hby
    have Hb := hide Hby
    clear Hby hE4 hE5
    go_enter Try.func7, Try.ntmps7
    go_wp2_with fail
    refine (unhide Hb).mono ?_
    rintro e w9 ⟨rfl, rfl⟩
    go_wp2_with fail
    go_ret
    exact ⟨rfl, Below.refl _ _⟩
  by_cases c8 : len4 = len5
  rotate_left
  · have Hby := bytes7_any a0 a1 a2 a3 a4 a5 len4 cap4 len5 cap5 hl4 hl5 w
    rw [decide_eq_true c1] at Hby
    have c9 : ((len4 : Int) != (len5 : Int)) = true := by simp; omega
    have Hb := hide Hby
    clear Hby hE4 hE5
    go_enter Try.func7, Try.ntmps7
    go_wp2_with fail
    refine (unhide Hb).mono ?_
    rintro e w9 ⟨rfl, rfl⟩
    go_wp2_with fail
    go_ret
    exact ⟨rfl, Below.refl _ _⟩
  subst c8
  obtain ⟨n, rfl⟩ := Int.eq_ofNat_of_zero_le (show 0 ≤ a0 by omega)
  obtain ⟨s1, rfl⟩ := Int.eq_ofNat_of_zero_le b1.1
  obtain ⟨s2, rfl⟩ := Int.eq_ofNat_of_zero_le b2.1
  obtain ⟨m, rfl⟩ := Int.eq_ofNat_of_zero_le (show 0 ≤ a3 by omega)
  exact law7_main n s1 s2 m (by omega) (by omega) (by omega) (by omega) a4 a5 len4 cap4 cap5 c2 _ _ w hE4 hE5

/-! ### THE ROW's STEP: WRITTEN OUT: LEAVE IT -/
set_option maxRecDepth 100000 in
theorem lifted (os : Os) (started : os.Started) (H : Type) (enc : TypeId × Value → H) :
    ReturnsInHanded {} Try.checked os 7 .any (Rows.fnAddedAgreesWithSetHaveSpec.pre6 enc Try.prog Try.f7 Rows.fnAddedAgreesWithSetHaveRow.domain false) (Rows.fnAddedAgreesWithSetHaveSpec.post enc Try.prog Try.f7 false true false false) := by
  refine returnsInHanded_of_change (C := Try.checked) own started (by kernel_rfl) Try.func7
    (ChangeSpec.witness6 (enc := enc) (C := Try.checked) false ⟨#[], #[.int .i64 0, .int .u64 0, .int .u64 0, .int .i64 0, .slice none 0 0, .slice none 0 0], []⟩ 8 (by kernel_rfl) (by kernel_rfl) (by kernel_rfl) (by kernel_rfl)) ?_
  intro W base args ds gs before hval0 hW hcnd _
  have hval : ∀ (j : Nat) t v, Try.f7.params[j]? = some t → args[j]? = some v → Value.okWide Try.prog W .any base t v := hval0
  have hW' := hW
  obtain ⟨p, q, hA0, hV, rfl, hfz, hnd⟩ := hW
  have hA : DataW.TrodAll enc Try.prog W 0 (fun _ => true) true Try.f7.params.toList args.toList ds p := hA0
  rw [Try.params7] at hA hval
  obtain ⟨v0, vs0, d0, ds0, p0, q0, hargs, rfl, rfl, h0, r0⟩ := trodAll_cons hA
  obtain ⟨v1, vs1, d1, ds1, p1, q1, rfl, rfl, rfl, h1, r1⟩ := trodAll_cons r0
  obtain ⟨v2, vs2, d2, ds2, p2, q2, rfl, rfl, rfl, h2, r2⟩ := trodAll_cons r1
  obtain ⟨v3, vs3, d3, ds3, p3, q3, rfl, rfl, rfl, h3, r3⟩ := trodAll_cons r2
  obtain ⟨v4, vs4, d4, ds4, p4, q4, rfl, rfl, rfl, h4, r4⟩ := trodAll_cons r3
  obtain ⟨v5, vs5, d5, ds5, p5, q5, rfl, rfl, rfl, h5, r5⟩ := trodAll_cons r4
  obtain ⟨rfl, rfl, rfl⟩ := trodAll_nil r5
  obtain rfl : args = #[v0, v1, v2, v3, v4, v5] := by cases args; simp_all
  obtain ⟨rfl, rfl⟩ := trodVars_none hV
  obtain ⟨a0, rfl, rfl, rfl, w0⟩ := open_int Try.underlying3 (hval 0 3 v0 rfl rfl) h0
  obtain ⟨a1, rfl, rfl, rfl, w1⟩ := open_int Try.underlying22 (hval 1 22 v1 rfl rfl) h1
  obtain ⟨a2, rfl, rfl, rfl, w2⟩ := open_int Try.underlying22 (hval 2 22 v2 rfl rfl) h2
  obtain ⟨a3, rfl, rfl, rfl, w3⟩ := open_int Try.underlying3 (hval 3 3 v3 rfl rfl) h3
  obtain ⟨a4, len4, cap4, rfl⟩ := okWide_slice Try.underlying23 (hval 4 23 v4 rfl rfl)
  have k4 := h4
  have lt4 : ∀ x ∈ p4, x.block < W.heap.size := by obtain ⟨m, hm⟩ := k4; exact DataW.trod_lt m _ _ _ hm
  obtain ⟨z4, w4⟩ : ∃ zs, IsRow .i64 W a4 len4 cap4 zs := by
    obtain ⟨fuel, hf⟩ := h4
    rcases open_ints Try.underlying23 Try.underlying3 (by kernel_rfl) hf with ⟨hcs, _⟩ | ⟨x, l, c, zs, hcs, _, hl, hm, hz, _, hcell, hwz⟩
    · simp [Value.cells] at hcs
      obtain ⟨rfl, rfl, rfl⟩ := hcs
      exact ⟨[], .inl ⟨rfl, rfl, rfl, rfl⟩⟩
    · simp [Value.cells] at hcs
      obtain ⟨rfl, rfl, rfl⟩ := hcs
      exact ⟨zs, .inr ⟨_, rfl, hl, hm, by simpa using hz, hcell, hwz⟩⟩
  obtain ⟨a5, len5, cap5, rfl⟩ := okWide_slice Try.underlying23 (hval 5 23 v5 rfl rfl)
  have k5 := h5
  have lt5 : ∀ x ∈ p5, x.block < W.heap.size := by obtain ⟨m, hm⟩ := k5; exact DataW.trod_lt m _ _ _ hm
  obtain ⟨z5, w5⟩ : ∃ zs, IsRow .i64 W a5 len5 cap5 zs := by
    obtain ⟨fuel, hf⟩ := h5
    rcases open_ints Try.underlying23 Try.underlying3 (by kernel_rfl) hf with ⟨hcs, _⟩ | ⟨x, l, c, zs, hcs, _, hl, hm, hz, _, hcell, hwz⟩
    · simp [Value.cells] at hcs
      obtain ⟨rfl, rfl, rfl⟩ := hcs
      exact ⟨[], .inl ⟨rfl, rfl, rfl, rfl⟩⟩
    · simp [Value.cells] at hcs
      obtain ⟨rfl, rfl, rfl⟩ := hcs
      exact ⟨zs, .inr ⟨_, rfl, hl, hm, by simpa using hz, hcell, hwz⟩⟩
  clear hA0 hval0
  refine (walk a0 a1 a2 a3 a4 len4 cap4 z4 a5 len5 cap5 z5 W w0 w1 w2 w3 w4 w5).mono fun e W' ⟨he, bel⟩ => ?_
  subst he
  exact ⟨_, rfl, _, _, _, [], _, [], hW', trodAll_mk1 (shut_bool Try.underlying4 _), (trodAll_cons_mk (shut_int Try.underlying3 w0) (trodAll_cons_mk (shut_int Try.underlying22 w1) (trodAll_cons_mk (shut_int Try.underlying22 w2) (trodAll_cons_mk (shut_int Try.underlying3 w3) (trodAll_cons_mk (Below.trod laidOut (by kernel_rfl) (of_decide_eq_true (by kernel_rfl)) k4 bel lt4) (trodAll_cons_mk (Below.trod laidOut (by kernel_rfl) (of_decide_eq_true (by kernel_rfl)) k5 bel lt5) trodAll_mk0)))))), rfl, bel.frame _, fun h => by cases h⟩

theorem over : Rows.fnAddedAgreesWithSetHaveRow.holds Try.pinned (OpenSpec.ofChange Rows.fnAddedAgreesWithSetHaveSpec) :=
  OpenClaim.holds_of_wide 7 Try.f7 rfl rfl rfl rfl rfl rfl rfl ⟨rfl, rfl, rfl, rfl, rfl⟩ rfl rfl rfl rfl rfl (by kernel_rfl) Try.func7 (by kernel_rfl)
    (of_decide_eq_true (by kernel_rfl)) (by unfold Func.isWrapper; first | (rw [if_pos (by decide +kernel)]; kernel_rfl) | (rw [if_neg (by decide +kernel)]; exact ⟨rfl, rfl⟩))
    (fun os started H enc _ => lifted os started H enc)

/-- ████ THE STATEMENT ████ -/
theorem proved : Rows.FnAddedAgreesWithSetHaveSaid := over
end Go.Proofs.Qxb6616210a.fnAddedAgreesWithSetHave
