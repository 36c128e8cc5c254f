/-
  No cell of these rows narrows 'for every input' (looked for: loops, veiled, ifaces, maps, wideKeys, modest, calm, conditions, laid).
  DERIVED. THE GIVEN ROWS OF THIS SEAT. 3 by the template 'for every input the law returns true; each argument reads behind the call as it read before'; 0 by the template 'total and deterministic' (their statements: Qxb6616348aTotals.lean).
  GIVEN WITH THE SEED: the statements are not yours to turn. If you find one false, say at which input.
  Laid BY PROGRAM, IN A SANDBOX (cutbox-rows.mjs): the forced cells as the released guide's own fill.sh prints them over the translation f239a5a1f817746c… (all of the seat's roots in one cut). By AI agents, Wed Nov 11 2026. No macro, syntax, notation, axiom, sorry.
-/
import Derived.Test.Qxb6616348aChecked
import GoSem.Claim
import GoSem.ClaimJoined
import GoSem.ClaimMapViews
import Derived.JoinedTies
import Derived.KernelRfl
namespace Go.Proofs.Qxb6616348a
/- THE CELL 'sum', in the pinned program and in every row, IS THE sha256 OF THE DUMP (.gsa) THAT Qxb6616348aProg.lean LOADS. Nothing in Lean hashes anything: it is a label: what it is worth is what the hold of that sum in a sandbox is worth. -/
noncomputable def Try.pinned : Pinned := { name := "qxb6616348a", sum := "f239a5a1f817746c5bf2b157250a7f0f4e1cdf85991cf2ecb43452ad8e73e0ff", checked := Try.checked }
namespace Rows
def none {H : Type} : Left H := { results := [], args := [] }

/-- 'zzlaws_root_b1.FnMulShoupIsLazyProductModP': WHATEVER THE INPUT: true; the input reads as it did. -/
def fnMulShoupIsLazyProductModPSpec : ChangeSpec := { name := "fnMulShoupIsLazyProductModP", fn := fun _ => fun
  | [d1, d2, d3, d4] => { results := [.lit (.bool true)], args := [d1, d2, d3, d4] }
  | _ => none }
def fnMulShoupIsLazyProductModPRow : OpenClaim := { program := "qxb6616348a", sum := "f239a5a1f817746c5bf2b157250a7f0f4e1cdf85991cf2ecb43452ad8e73e0ff", func := "example.com/truedigit/truedigit/zzlaws_root_b1.FnMulShoupIsLazyProductModP", spec := "fnMulShoupIsLazyProductModP", apart := false }
def FnMulShoupIsLazyProductModPSaid : Prop := fnMulShoupIsLazyProductModPRow.holds Try.pinned (OpenSpec.ofChange fnMulShoupIsLazyProductModPSpec)

/-- ITS FALSE NEIGHBOUR: 'it returns false'. Refute it at one input. -/
def fnMulShoupIsLazyProductModPWrong : ChangeSpec := { name := "fnMulShoupIsLazyProductModP", fn := fun _ => fun
  | [d1, d2, d3, d4] => { results := [.lit (.bool false)], args := [d1, d2, d3, d4] }
  | _ => none }
def FnMulShoupIsLazyProductModPWrongFalsely : Prop := fnMulShoupIsLazyProductModPRow.holds Try.pinned (OpenSpec.ofChange fnMulShoupIsLazyProductModPWrong)

/-- 'zzlaws_root_b1.FnMulShoupChainsStayLazy': WHATEVER THE INPUT: true; the input reads as it did. -/
def fnMulShoupChainsStayLazySpec : ChangeSpec := { name := "fnMulShoupChainsStayLazy", fn := fun _ => fun
  | [d1, d2, d3, d4, d5, d6] => { results := [.lit (.bool true)], args := [d1, d2, d3, d4, d5, d6] }
  | _ => none }
def fnMulShoupChainsStayLazyRow : OpenClaim := { program := "qxb6616348a", sum := "f239a5a1f817746c5bf2b157250a7f0f4e1cdf85991cf2ecb43452ad8e73e0ff", func := "example.com/truedigit/truedigit/zzlaws_root_b1.FnMulShoupChainsStayLazy", spec := "fnMulShoupChainsStayLazy", apart := false }
def FnMulShoupChainsStayLazySaid : Prop := fnMulShoupChainsStayLazyRow.holds Try.pinned (OpenSpec.ofChange fnMulShoupChainsStayLazySpec)

/-- ITS FALSE NEIGHBOUR: 'it returns false'. Refute it at one input. -/
def fnMulShoupChainsStayLazyWrong : ChangeSpec := { name := "fnMulShoupChainsStayLazy", fn := fun _ => fun
  | [d1, d2, d3, d4, d5, d6] => { results := [.lit (.bool false)], args := [d1, d2, d3, d4, d5, d6] }
  | _ => none }
def FnMulShoupChainsStayLazyWrongFalsely : Prop := fnMulShoupChainsStayLazyRow.holds Try.pinned (OpenSpec.ofChange fnMulShoupChainsStayLazyWrong)

/-- 'zzlaws_root_b1.FnPiecesAskNextOnlyUntilEmpty': WHATEVER THE INPUT: true; the input reads as it did. -/
def fnPiecesAskNextOnlyUntilEmptySpec : ChangeSpec := { name := "fnPiecesAskNextOnlyUntilEmpty", fn := fun _ => fun
  | [d1, d2] => { results := [.lit (.bool true)], args := [d1, d2] }
  | _ => none }
def fnPiecesAskNextOnlyUntilEmptyRow : OpenClaim := { program := "qxb6616348a", sum := "f239a5a1f817746c5bf2b157250a7f0f4e1cdf85991cf2ecb43452ad8e73e0ff", func := "example.com/truedigit/truedigit/zzlaws_root_b1.FnPiecesAskNextOnlyUntilEmpty", spec := "fnPiecesAskNextOnlyUntilEmpty", unfollowed := true, recurses := true, apart := false }
def FnPiecesAskNextOnlyUntilEmptySaid : Prop := fnPiecesAskNextOnlyUntilEmptyRow.holds Try.pinned (OpenSpec.ofChange fnPiecesAskNextOnlyUntilEmptySpec)

/-- ITS FALSE NEIGHBOUR: 'it returns false'. Refute it at one input. -/
def fnPiecesAskNextOnlyUntilEmptyWrong : ChangeSpec := { name := "fnPiecesAskNextOnlyUntilEmpty", fn := fun _ => fun
  | [d1, d2] => { results := [.lit (.bool false)], args := [d1, d2] }
  | _ => none }
def FnPiecesAskNextOnlyUntilEmptyWrongFalsely : Prop := fnPiecesAskNextOnlyUntilEmptyRow.holds Try.pinned (OpenSpec.ofChange fnPiecesAskNextOnlyUntilEmptyWrong)

end Rows
end Go.Proofs.Qxb6616348a
