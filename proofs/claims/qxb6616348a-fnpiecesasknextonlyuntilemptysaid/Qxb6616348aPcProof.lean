/-
  THE PROOF OF Rows.FnPiecesAskNextOnlyUntilEmptySaid (the frame after the shells of the other seats, turned to a slice of slices).
-/
import Derived.Test.Qxb6616348aRows
import Derived.WalkKit
import Derived.ProofKit
import Derived.OpenShut
import Derived.ShutString
import Derived.ChangeOld
import Derived.Below
import Derived.Deep.Matrix
import Derived.Test.Qxb6616348aLw
namespace Go.Proofs.Qxb6616348a.fnPiecesAskNextOnlyUntilEmpty
open Go.ChangeShapes Go.WideShapes Go.ChangeAt Go.RowKit
open Go.ChangeMaps (open_string shut_string)
set_option linter.unusedVariables false

theorem own : ownKnob Try.prog.godebug = none := by kernel_rfl
theorem laidOut : laidOutB Try.prog = true := by kernel_rfl
theorem cells37 : Try.prog.cellsOf 37 = 1 := by kernel_rfl
theorem cells5 : Try.prog.cellsOf 5 = 1 := by kernel_rfl
theorem wf_i64 {a : Int} (h : (Lit.int .i64 a).wf = true) : -9223372036854775808 ≤ a ∧ a ≤ 9223372036854775807 := by
  simp only [Lit.wf, Bool.and_eq_true, decide_eq_true_eq] at h
  have e1 : IntKind.i64.min = -9223372036854775808 := by decide
  have e2 : IntKind.i64.max = 9223372036854775807 := by decide
  omega
/-- What the walk is told of the list that came in. -/
def IsList (w : World) (a : Option Addr) (len cap : Nat) : Prop := len ≤ 9223372036854775807 ∧ (a = none → len = 0 ∧ cap = 0) ∧ ∃ A L C Z, Ins w a len A L C Z
set_option maxRecDepth 100000 in
set_option maxHeartbeats 4000000 in
theorem walk (a : Option Addr) (len cap : Nat) (m : Int) (w : World) (w0 : IsList w a len cap) (w1 : (Lit.int .i64 m).wf = true) :
    Calls Try.prog 5 #[.slice a len cap, .int .i64 m] w fun e w' => e = .returned (.bool true) ∧ Below w.heap.size w w' := by
  have b1 := wf_i64 w1
  obtain ⟨hl, ha, A, L, C, Z, hI⟩ := w0
  by_cases c1 : m < 0
  · have Hby := hide (bytes_any m a len cap A L C Z hl w hI)
    have Hbig := hide (fun h1 => tooBig_any a len cap A L C Z hl h1 w hI)
    clear hI ha
    go_enter Try.func5, Try.ntmps5
    go_wp2_with fail
    refine (unhide Hby).mono ?_
    rintro e w0 ⟨r, rfl, rfl, hby⟩
    cases r with
    | false =>
      go_wp2_with fail
      go_ret
      exact ⟨rfl, Below.refl _ _⟩
    | true =>
      have Hbg := hide (unhide Hbig (fun i hi => by have := hby rfl i hi; omega))
      clear Hbig hby
      go_wp2_with fail
      refine (unhide Hbg).mono ?_
      rintro e w1 ⟨r, rfl, rfl, hr⟩
      clear hr
      cases r with
      | true =>
        go_wp2_with fail
        go_ret
        exact ⟨rfl, Below.refl _ _⟩
      | false =>
        go_wp2_with fail
        go_ret
        exact ⟨rfl, Below.refl _ _⟩
  · by_cases c2 : m ≤ 65536
    · obtain ⟨n, rfl⟩ := Int.eq_ofNat_of_zero_le (show 0 ≤ m by omega)
      exact law_main n (by omega) a len cap A L C Z hl ha w hI
    · have Hby := hide (bytes_any m a len cap A L C Z hl w hI)
      have Hbig := hide (fun h1 => tooBig_any a len cap A L C Z hl h1 w hI)
      clear hI ha
      go_enter Try.func5, Try.ntmps5
      go_wp2_with fail
      refine (unhide Hby).mono ?_
      rintro e w0 ⟨r, rfl, rfl, hby⟩
      cases r with
      | false =>
        go_wp2_with fail
        go_ret
        exact ⟨rfl, Below.refl _ _⟩
      | true =>
        have Hbg := hide (unhide Hbig (fun i hi => by have := hby rfl i hi; omega))
        clear Hbig hby
        go_wp2_with fail
        refine (unhide Hbg).mono ?_
        rintro e w1 ⟨r, rfl, rfl, hr⟩
        clear hr
        cases r with
        | true =>
          go_wp2_with fail
          go_ret
          exact ⟨rfl, Below.refl _ _⟩
        | false =>
          go_wp2_with fail
          go_ret
          exact ⟨rfl, Below.refl _ _⟩

/-- An address that leads to a cell has no spot, and its k-th neighbour is k cells on. -/
theorem addr_plain {w : World} {x : Addr} {k : Nat} {v v0 : Value} (h0 : w.cell? (x.add 0) = some v0) (h : w.cell? (x.add k) = some v) : ∃ b off, x = ⟨b, off, none⟩ ∧ w.cell? ⟨b, off + k, none⟩ = some v := by
  obtain ⟨xb, xo, xs⟩ := x
  have hs := World.cell?_spot h0
  simp only [Addr.add, if_true] at h hs
  subst hs
  refine ⟨xb, xo, rfl, ?_⟩
  by_cases e : k = 0
  · rw [if_pos e] at h; rw [e]; exact h
  · rw [if_neg e] at h; exact h

set_option maxRecDepth 100000 in
theorem lifted (os : Os) (started : os.Started) (H : Type) (enc : TypeId × Value → H) :
    ReturnsInHanded {} Try.checked os 5 .any (Rows.fnPiecesAskNextOnlyUntilEmptySpec.pre6 enc Try.prog Try.f5 Rows.fnPiecesAskNextOnlyUntilEmptyRow.domain false) (Rows.fnPiecesAskNextOnlyUntilEmptySpec.post enc Try.prog Try.f5 false true false false) := by
  refine returnsInHanded_of_change (C := Try.checked) own started (by kernel_rfl) Try.func5
    (ChangeSpec.witness6 (enc := enc) (C := Try.checked) false ⟨#[], #[.slice none 0 0, .int .i64 0], []⟩ 8 (by kernel_rfl) (by kernel_rfl) (by kernel_rfl) (by kernel_rfl)) ?_
  intro W base args ds gs before hval0 hW hcnd _
  have hval : ∀ (j : Nat) t v, Try.f5.params[j]? = some t → args[j]? = some v → Value.okWide Try.prog W .any base t v := hval0
  have hW' := hW
  obtain ⟨p, q, hA0, hV, rfl, hfz, hnd⟩ := hW
  have hA : DataW.TrodAll enc Try.prog W 0 (fun _ => true) true Try.f5.params.toList args.toList ds p := hA0
  rw [Try.params5] at hA hval
  obtain ⟨v0, vs0, d0, ds0, p0, q0, hargs, rfl, rfl, h0, r0⟩ := trodAll_cons hA
  obtain ⟨v1, vs1, d1, ds1, p1, q1, rfl, rfl, rfl, h1, r1⟩ := trodAll_cons r0
  obtain ⟨rfl, rfl, rfl⟩ := trodAll_nil r1
  obtain rfl : args = #[v0, v1] := by cases args; simp_all
  obtain ⟨rfl, rfl⟩ := trodVars_none hV
  obtain ⟨a0, len0, cap0, rfl⟩ := okWide_slice Try.underlying28 (hval 0 28 v0 rfl rfl)
  have k0 := h0
  have lt0 : ∀ x ∈ p0, x.block < W.heap.size := by obtain ⟨m, hm⟩ := k0; exact DataW.trod_lt m _ _ _ hm
  have w0 : IsList W a0 len0 cap0 := by
    obtain ⟨fuel, hf⟩ := h0
    rcases Go.Deep.open_int_rows Try.underlying28 Try.underlying37 Try.underlying5 cells37 cells5 hf with ⟨hcs, _⟩ | ⟨x, l, c, A, L, C, Z, hcs, _, hl, hm, _, hrows⟩
    · simp [Value.cells] at hcs
      obtain ⟨rfl, rfl, rfl⟩ := hcs
      exact ⟨by omega, fun _ => ⟨rfl, rfl⟩, fun _ => none, fun _ => 0, fun _ => 0, fun _ _ => 0, fun i hi => by omega⟩
    · simp [Value.cells] at hcs
      obtain ⟨rfl, rfl, rfl⟩ := hcs
      refine ⟨by unfold maxLen at hm; omega, fun e => (by cases e), A, L, C, fun i j => (Z i).getD j 0, fun i hi => ?_⟩
      obtain ⟨g1, g2, g3, g4, g5, g6, g7⟩ := hrows i (by omega)
      obtain ⟨b, off, rfl, hc⟩ := addr_plain (hrows 0 (by omega)).1 g1
      refine ⟨⟨b, off, rfl, block_lt_of_cell hc, hc⟩, by unfold maxLen at g3; omega, fun e => ?_, fun a' ha c hcl => (g7 a' ha).2 c (by omega)⟩
      have := g6 e
      exact ⟨by omega, this⟩
  obtain ⟨a1, rfl, rfl, rfl, w1⟩ := open_int Try.underlying3 (hval 1 3 v1 rfl rfl) h1
  clear hA0 hval0
  refine (walk a0 len0 cap0 a1 W w0 w1).mono fun e W' ⟨he, bel⟩ => ?_
  subst he
  exact ⟨_, rfl, _, _, _, [], _, [], hW', trodAll_mk1 (shut_bool Try.underlying4 _), (trodAll_cons_mk (Below.trod laidOut (by kernel_rfl) (of_decide_eq_true (by kernel_rfl)) k0 bel lt0) (trodAll_cons_mk (shut_int Try.underlying3 w1) trodAll_mk0)), rfl, bel.frame _, fun h => by cases h⟩

theorem over : Rows.fnPiecesAskNextOnlyUntilEmptyRow.holds Try.pinned (OpenSpec.ofChange Rows.fnPiecesAskNextOnlyUntilEmptySpec) :=
  OpenClaim.holds_of_wide 5 Try.f5 rfl rfl rfl rfl rfl rfl rfl ⟨rfl, rfl, rfl, rfl, rfl⟩ rfl rfl rfl rfl rfl (by kernel_rfl) Try.func5 (by kernel_rfl)
    (of_decide_eq_true (by kernel_rfl)) (by unfold Func.isWrapper; first | (rw [if_pos (by decide +kernel)]; kernel_rfl) | (rw [if_neg (by decide +kernel)]; exact ⟨rfl, rfl⟩))
    (fun os started H enc _ => lifted os started H enc)

/-- ████ THE STATEMENT ████ -/
theorem proved : Rows.FnPiecesAskNextOnlyUntilEmptySaid := over
end Go.Proofs.Qxb6616348a.fnPiecesAskNextOnlyUntilEmpty
