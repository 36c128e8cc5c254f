/-
  PLAIN FUNCTIONS AND SMALL LEMMAS for the clock's law (seat b6616202a): what 'clockEntry' reckons ('EL'), what 'clockInDomain' says ('Dom'), helpers of the walks.
-/
import Derived.Test.Qxb6616202aRows
import Derived.WalkKit
import Derived.WalkLawsBesides
import Derived.WalkSpells
import Derived.WalkSmall
import Derived.Deep.QuietTactic
import Derived.BigQuiet
import Derived.Below
import Derived.Deep.MidRow
import Derived.Deep.WholeRow
namespace Go.Proofs.Qxb6616202a
open Go.RowKit

def e0 (T : Nat → Int) (t : Int) : Int := if t < 32 then T t.toNat else 0
def e1 (T : Nat → Int) (own ownLine t : Int) : Int := if 0 < ownLine ∧ t = own ∧ e0 T t < ownLine then ownLine else e0 T t
def EL (T : Nat → Int) (own ownLine : Int) (aT aL : Nat → Int) (t : Int) : Nat → Int
  | 0 => e1 T own ownLine t
  | i + 1 => if aT i = t ∧ EL T own ownLine aT aL t i < aL i then aL i else EL T own ownLine aT aL t i

theorem hide {p : Prop} (h : p) : Hid p := h
theorem unhide {p : Prop} (h : Hid p) : p := h

theorem ext_lt {P : Nat → Prop} {j : Nat} (h : ∀ i, i < j → P i) (hj : P j) : ∀ i, i < j + 1 → P i := fun i hi => by
  by_cases hn : i < j
  · exact h i hn
  · obtain rfl : i = j := by omega
    exact hj

theorem nb {a b : Int} (h : (a == b) = false) : a ≠ b := by simpa using h

structure Dom (T : Nat → Int) (own ownLine : Int) (aT aL : Nat → Int) (k : Nat) : Prop where
  k5 : k ≤ 5
  own0 : 0 ≤ own
  line0 : 0 ≤ ownLine
  tree0 : ∀ i, i < 32 → 0 ≤ T i
  treeOwn : 0 < ownLine → own < 32 → T own.toNat ≤ ownLine
  a0 : ∀ i, i < k → 0 ≤ aT i ∧ 0 ≤ aL i
  aown : 0 < ownLine → ∀ i, i < k → aT i ≠ own
  adist : ∀ i, i < k → ∀ j, j < i → aT j ≠ aT i
  atree : ∀ i, i < k → aT i < 32 → T (aT i).toNat ≤ aL i

/-- What the second loop has seen of the entries below j. -/
def Seen (T : Nat → Int) (own ownLine : Int) (aT aL : Nat → Int) (n : Nat) : Prop :=
  ∀ i, i < n → 0 ≤ aT i ∧ 0 ≤ aL i ∧ (0 < ownLine → aT i ≠ own) ∧ (∀ j, j < i → aT j ≠ aT i) ∧ (aT i < 32 → T (aT i).toNat ≤ aL i)

theorem Seen.succ {T : Nat → Int} {own ownLine : Int} {aT aL : Nat → Int} {n : Nat} (h : Seen T own ownLine aT aL n) (a : 0 ≤ aT n) (b : 0 ≤ aL n) (c : 0 < ownLine → aT n ≠ own) (d : ∀ j, j < n → aT j ≠ aT n) (e : aT n < 32 → T (aT n).toNat ≤ aL n) : Seen T own ownLine aT aL (n + 1) := by
  intro i hi
  by_cases hn : i < n
  · exact h i hn
  · obtain rfl : i = n := by omega
    exact ⟨a, b, c, d, e⟩

theorem Dom.mk' {T : Nat → Int} {own ownLine : Int} {aT aL : Nat → Int} {k : Nat} (a : k ≤ 5) (b : 0 ≤ own) (c : 0 ≤ ownLine) (d : ∀ i, i < 32 → 0 ≤ T i) (e : 0 < ownLine → own < 32 → T own.toNat ≤ ownLine) (s : Seen T own ownLine aT aL k) : Dom T own ownLine aT aL k :=
  ⟨a, b, c, d, e, fun i hi => ⟨(s i hi).1, (s i hi).2.1⟩, fun h i hi => (s i hi).2.2.1 h, fun i hi => (s i hi).2.2.2.1, fun i hi => (s i hi).2.2.2.2⟩

theorem three (w : World) (a b c : Obj) : Below w.heap.size w (((w.alloc a).alloc b).alloc c) := ((((Below.refl _ _).alloc (Nat.le_refl _) _).alloc (by simp) _).alloc (by simp; omega) _)

/-- What 'clockInDomain' leaves: a Bool which, where it is true, says that the fields make a clock; nothing old has turned. -/
def DomPost (T : Nat → Int) (own ownLine : Int) (aT aL : Nat → Int) (k : Nat) (w : World) (e : Ending) (w' : World) : Prop :=
  ∃ b, e = .returned (.bool b) ∧ (b = true → Dom T own ownLine aT aL k) ∧ Below w.heap.size w w'
theorem DomPost.no {T : Nat → Int} {own ownLine : Int} {aT aL : Nat → Int} {k : Nat} {w w' : World} (h : Below w.heap.size w w') {e : Ending} (he : e = .returned (.bool false)) : DomPost T own ownLine aT aL k w e w' :=
  ⟨false, he, by simp, h⟩
theorem DomPost.yes {T : Nat → Int} {own ownLine : Int} {aT aL : Nat → Int} {k : Nat} {w w' : World} (d : Dom T own ownLine aT aL k) (h : Below w.heap.size w w') {e : Ending} (he : e = .returned (.bool true)) : DomPost T own ownLine aT aL k w e w' :=
  ⟨true, he, fun _ => d, h⟩

end Go.Proofs.Qxb6616202a
