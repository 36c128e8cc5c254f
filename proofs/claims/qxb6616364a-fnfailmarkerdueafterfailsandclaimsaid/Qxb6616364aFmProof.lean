/-
  THE PROOF OF Rows.FnFailMarkerDueAfterFailsAndClaimSaid: the shell that the seat gives, its hole filled.
-/
import Derived.Test.Qxb6616364aRows
import Derived.WalkKit
import Derived.ProofKit
import Derived.OpenShut
import Derived.ShutString
import Derived.ChangeOld
import Derived.Below
import Derived.Test.Qxb6616364aLaw
namespace Go.Proofs.Qxb6616364a.fnFailMarkerDueAfterFailsAndClaim
open Go.ChangeShapes Go.WideShapes Go.ChangeAt Go.RowKit
open Go.ChangeMaps (open_string shut_string)
set_option linter.unusedVariables false

theorem own : ownKnob Try.prog.godebug = none := by kernel_rfl
theorem laidOut : laidOutB Try.prog = true := by kernel_rfl

/-- WHAT THE WALK IS TOLD OF A SLICE OF INTEGERS THAT CAME IN: it is nil; or it leads to a row of 'cap' cells, the numbers 'zs' (the first 'len' are its elements, the rest its spare room), each fitting its kind. -/
def IsRow (k : IntKind) (w : World) (a : Option Addr) (len cap : Nat) (zs : List Int) : Prop :=
  (a = none ∧ len = 0 ∧ cap = 0 ∧ zs = []) ∨
  ∃ x, a = some x ∧ len ≤ cap ∧ cap ≤ maxLen ∧ zs.length = cap ∧ (∀ i, i < zs.length → w.cell? (x.add i) = some (.int k (zs.getD i 0))) ∧ ∀ n ∈ zs, (Lit.int k n).wf = true

/-! ### STEP 1: THE WALK: the Go text returns true, AND WRITES NOTHING THAT WAS THERE: 'Below w.heap.size w w'' (Derived/Below.lean: '.refl', '.alloc', '.drew', '.setCell' at a new block, '.trans'). Open each 'IsRow' by 'rcases' AHEAD of 'go_enter'; part every test ahead of the walk. -/
theorem wf_i64 {a : Int} (h : (Lit.int .i64 a).wf = true) : -9223372036854775808 ≤ a ∧ a ≤ 9223372036854775807 := by
  simp only [Lit.wf, Bool.and_eq_true, decide_eq_true_eq] at h
  have e1 : IntKind.i64.min = -9223372036854775808 := by decide
  have e2 : IntKind.i64.max = 9223372036854775807 := by decide
  omega
theorem elems_of {w : World} {a3 : Option Addr} {len3 cap3 : Nat} {z3 : List Int} (w3 : IsRow .i64 w a3 len3 cap3 z3) : len3 ≤ 9223372036854775807 ∧ Elems w a3 len3 (fun i => z3.getD i 0) := by
  rcases w3 with ⟨rfl, rfl, rfl, rfl⟩ | ⟨x, rfl, hl, hm, hz, hc, _⟩
  · exact ⟨by omega, fun k hk => by omega⟩
  · refine ⟨by unfold maxLen at hm; omega, fun k hk => ?_⟩
    obtain ⟨xb, xo, xs⟩ := x
    have c0 := hc 0 (by omega)
    have c := hc k (by omega)
    have hs := World.cell?_spot c0
    simp only [Addr.add, if_true] at c hs
    subst hs
    have c' : w.cell? ⟨xb, xo + k, none⟩ = some (Value.int IntKind.i64 (z3.getD k 0)) := by
      by_cases e : k = 0
      · rw [if_pos e] at c; rw [e] at c ⊢; exact c
      · rw [if_neg e] at c; exact c
    exact ⟨xb, xo, rfl, block_lt_of_cell c', c'⟩
set_option maxRecDepth 100000 in
set_option maxHeartbeats 4000000 in
theorem walk (a0 : Int) (a1 : Int) (a2 : Option Addr) (len2 cap2 : Nat) (z2 : List Int) (a3 : Int) (w : World) (w0 : (Lit.int .i64 a0).wf = true) (w1 : (Lit.int .i64 a1).wf = true) (w2 : IsRow .i64 w a2 len2 cap2 z2) (w3 : (Lit.int .i64 a3).wf = true) :
    Calls Try.prog 3 #[.int .i64 a0, .int .i64 a1, .slice a2 len2 cap2, .int .i64 a3] w fun e w' => e = .returned (.bool true) ∧ Below w.heap.size w w' := by
  have b0 := wf_i64 w0
  obtain ⟨hl, hE⟩ := elems_of w2
  clear w2
  have Hby := bytes_any a0 a1 a3 a2 len2 cap2 hl w
  have Hin := hide (fun x w => inTime_any x w)
  by_cases c1 : len2 ≤ 1048576
  · rw [decide_eq_true c1] at Hby
    have Hb := hide Hby
    clear Hby
    by_cases c2 : len2 ≤ 4096
    · by_cases c3 : -2305843009213693952 ≤ a1 ∧ a1 ≤ 2305843009213693952
      · by_cases c4 : -2305843009213693952 ≤ a3 ∧ a3 ≤ 2305843009213693952
        · exact law3_main a0 a1 a3 b0 c3 c4 a2 len2 cap2 c2 _ w hE
        · clear hE
          go_enter Try.func3, Try.ntmps3
          go_wp2_with fail
          refine (unhide Hb).mono ?_
          rintro e w9 ⟨rfl, rfl⟩
          go_wp2_with fail
          refine (unhide Hin _ _).mono ?_
          rintro e w9 ⟨rfl, rfl⟩
          rw [decide_eq_true c3]
          go_wp2_with fail
          refine (unhide Hin _ _).mono ?_
          rintro e w9 ⟨rfl, rfl⟩
          rw [decide_eq_false c4]
          go_wp2_with fail
          go_ret
          exact ⟨rfl, Below.refl _ _⟩
      · clear hE
        go_enter Try.func3, Try.ntmps3
        go_wp2_with fail
        refine (unhide Hb).mono ?_
        rintro e w9 ⟨rfl, rfl⟩
        go_wp2_with fail
        refine (unhide Hin _ _).mono ?_
        rintro e w9 ⟨rfl, rfl⟩
        rw [decide_eq_false c3]
        go_wp2_with fail
        go_ret
        exact ⟨rfl, Below.refl _ _⟩
    · clear hE
      go_enter Try.func3, Try.ntmps3
      go_wp2_with fail
      refine (unhide Hb).mono ?_
      rintro e w9 ⟨rfl, rfl⟩
      go_wp2_with fail
      go_ret
      exact ⟨rfl, Below.refl _ _⟩
  · rw [decide_eq_false c1] at Hby
    have Hb := hide Hby
    clear Hby hE
    go_enter Try.func3, Try.ntmps3
    go_wp2_with fail
    refine (unhide Hb).mono ?_
    rintro e w9 ⟨rfl, rfl⟩
    go_wp2_with fail
    go_ret
    exact ⟨rfl, Below.refl _ _⟩

/-! ### THE ROW's STEP: WRITTEN OUT: LEAVE IT -/
set_option maxRecDepth 100000 in
theorem lifted (os : Os) (started : os.Started) (H : Type) (enc : TypeId × Value → H) :
    ReturnsInHanded {} Try.checked os 3 .any (Rows.fnFailMarkerDueAfterFailsAndClaimSpec.pre6 enc Try.prog Try.f3 Rows.fnFailMarkerDueAfterFailsAndClaimRow.domain false) (Rows.fnFailMarkerDueAfterFailsAndClaimSpec.post enc Try.prog Try.f3 false true false false) := by
  refine returnsInHanded_of_change (C := Try.checked) own started (by kernel_rfl) Try.func3
    (ChangeSpec.witness6 (enc := enc) (C := Try.checked) false ⟨#[], #[.int .i64 0, .int .i64 0, .slice none 0 0, .int .i64 0], []⟩ 8 (by kernel_rfl) (by kernel_rfl) (by kernel_rfl) (by kernel_rfl)) ?_
  intro W base args ds gs before hval0 hW hcnd _
  have hval : ∀ (j : Nat) t v, Try.f3.params[j]? = some t → args[j]? = some v → Value.okWide Try.prog W .any base t v := hval0
  have hW' := hW
  obtain ⟨p, q, hA0, hV, rfl, hfz, hnd⟩ := hW
  have hA : DataW.TrodAll enc Try.prog W 0 (fun _ => true) true Try.f3.params.toList args.toList ds p := hA0
  rw [Try.params3] at hA hval
  obtain ⟨v0, vs0, d0, ds0, p0, q0, hargs, rfl, rfl, h0, r0⟩ := trodAll_cons hA
  obtain ⟨v1, vs1, d1, ds1, p1, q1, rfl, rfl, rfl, h1, r1⟩ := trodAll_cons r0
  obtain ⟨v2, vs2, d2, ds2, p2, q2, rfl, rfl, rfl, h2, r2⟩ := trodAll_cons r1
  obtain ⟨v3, vs3, d3, ds3, p3, q3, rfl, rfl, rfl, h3, r3⟩ := trodAll_cons r2
  obtain ⟨rfl, rfl, rfl⟩ := trodAll_nil r3
  obtain rfl : args = #[v0, v1, v2, v3] := by cases args; simp_all
  obtain ⟨rfl, rfl⟩ := trodVars_none hV
  obtain ⟨a0, rfl, rfl, rfl, w0⟩ := open_int Try.underlying3 (hval 0 3 v0 rfl rfl) h0
  obtain ⟨a1, rfl, rfl, rfl, w1⟩ := open_int Try.underlying2 (hval 1 2 v1 rfl rfl) h1
  obtain ⟨a2, len2, cap2, rfl⟩ := okWide_slice Try.underlying22 (hval 2 22 v2 rfl rfl)
  have k2 := h2
  have lt2 : ∀ x ∈ p2, x.block < W.heap.size := by obtain ⟨m, hm⟩ := k2; exact DataW.trod_lt m _ _ _ hm
  obtain ⟨z2, w2⟩ : ∃ zs, IsRow .i64 W a2 len2 cap2 zs := by
    obtain ⟨fuel, hf⟩ := h2
    rcases open_ints Try.underlying22 Try.underlying2 (by kernel_rfl) hf with ⟨hcs, _⟩ | ⟨x, l, c, zs, hcs, _, hl, hm, hz, _, hcell, hwz⟩
    · simp [Value.cells] at hcs
      obtain ⟨rfl, rfl, rfl⟩ := hcs
      exact ⟨[], .inl ⟨rfl, rfl, rfl, rfl⟩⟩
    · simp [Value.cells] at hcs
      obtain ⟨rfl, rfl, rfl⟩ := hcs
      exact ⟨zs, .inr ⟨_, rfl, hl, hm, by simpa using hz, hcell, hwz⟩⟩
  obtain ⟨a3, rfl, rfl, rfl, w3⟩ := open_int Try.underlying2 (hval 3 2 v3 rfl rfl) h3
  clear hA0 hval0
  refine (walk a0 a1 a2 len2 cap2 z2 a3 W w0 w1 w2 w3).mono fun e W' ⟨he, bel⟩ => ?_
  subst he
  exact ⟨_, rfl, _, _, _, [], _, [], hW', trodAll_mk1 (shut_bool Try.underlying4 _), (trodAll_cons_mk (shut_int Try.underlying3 w0) (trodAll_cons_mk (shut_int Try.underlying2 w1) (trodAll_cons_mk (Below.trod laidOut (by kernel_rfl) (of_decide_eq_true (by kernel_rfl)) k2 bel lt2) (trodAll_cons_mk (shut_int Try.underlying2 w3) trodAll_mk0)))), rfl, bel.frame _, fun h => by cases h⟩

theorem over : Rows.fnFailMarkerDueAfterFailsAndClaimRow.holds Try.pinned (OpenSpec.ofChange Rows.fnFailMarkerDueAfterFailsAndClaimSpec) :=
  OpenClaim.holds_of_wide 3 Try.f3 rfl rfl rfl rfl rfl rfl rfl ⟨rfl, rfl, rfl, rfl, rfl⟩ rfl rfl rfl rfl rfl (by kernel_rfl) Try.func3 (by kernel_rfl)
    (of_decide_eq_true (by kernel_rfl)) (by unfold Func.isWrapper; first | (rw [if_pos (by decide +kernel)]; kernel_rfl) | (rw [if_neg (by decide +kernel)]; exact ⟨rfl, rfl⟩))
    (fun os started H enc _ => lifted os started H enc)

/-- ████ THE STATEMENT ████ -/
theorem proved : Rows.FnFailMarkerDueAfterFailsAndClaimSaid := over
end Go.Proofs.Qxb6616364a.fnFailMarkerDueAfterFailsAndClaim
