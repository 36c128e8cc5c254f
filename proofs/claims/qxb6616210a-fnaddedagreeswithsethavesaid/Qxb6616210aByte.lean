/-
  A BYTE OF A BITFIELD (plain), AND pieceBits (49).
-/
import Derived.Test.Qxb6616210aBits
namespace Go.Proofs.Qxb6616210a
open Go.RowKit Go.Lib
/-- What 'Set' writes of a byte. -/
def setB (v i : Nat) : Nat := v ||| (128 / 2 ^ (i % 8))
theorem setB_fin : ∀ v : Fin 256, ∀ i : Fin 8, bits BinOp.or IntKind.u8 (v.1 : Int) (128 / 2 ^ (i.1 % 8)) = (setB v.1 i.1 : Int) ∧ setB v.1 i.1 < 256 := by decide +kernel
theorem hasB_fin : ∀ v : Fin 256, ∀ i : Fin 8, ∀ j : Fin 8, hasB (setB v.1 i.1) j.1 = (decide (i.1 = j.1) || hasB v.1 j.1) := by decide +kernel
theorem setB_or {v : Nat} (hv : v < 256) (i : Nat) : bits BinOp.or IntKind.u8 (v : Int) (128 / 2 ^ (i % 8)) = (setB v i : Int) ∧ setB v i < 256 := by
  have h := setB_fin ⟨v, hv⟩ ⟨i % 8, Nat.mod_lt _ (by decide)⟩
  simp only [setB, Nat.mod_mod] at h ⊢
  exact h
theorem hasB_set {v : Nat} (hv : v < 256) (i j : Nat) : hasB (setB v i) j = (decide (i % 8 = j % 8) || hasB v j) := by
  have h := hasB_fin ⟨v, hv⟩ ⟨i % 8, Nat.mod_lt _ (by decide)⟩ ⟨j % 8, Nat.mod_lt _ (by decide)⟩
  simp only [setB, hasB, Nat.mod_mod] at h ⊢
  exact h
theorem hasB_zero (i : Nat) : hasB 0 i = false := by
  have h : ∀ i : Fin 8, hasB 0 i.1 = false := by decide +kernel
  have h := h ⟨i % 8, Nat.mod_lt _ (by decide)⟩
  simp only [hasB, Nat.mod_mod] at h ⊢
  exact h

def BytePost (w : World) (e : Ending) (w' : World) : Prop := (∃ p : Int, e = .returned (.int .u8 p)) ∧ Kept (fun _ => False) w w'
set_option maxRecDepth 100000 in
set_option maxHeartbeats 1000000 in
theorem pieceBits_any (bb bfu nb nf n c j : Nat) (hn : n ≤ 65536) (hnb : nb ≤ 65536) (hj : j < nb) (w : World) :
    Calls Try.prog 49 #[bf bb bfu nb nf n c, .int .i64 j] w (BytePost w) := by
  unfold bf
  by_cases e : j = nb - 1
  · have q : ((j : Int) == (nb : Int) - 1) = true := by simp; omega
    by_cases e2 : n % 8 = 0
    · have q2 : ((n : Int) % 8 != 0) = false := by simp; omega
      go_enter Try.func49, Try.ntmps49
      go_wp2_with fail
      go_ret
      exact ⟨⟨_, rfl⟩, (Kept.refl _ _).alloc _⟩
    · have q2 : ((n : Int) % 8 != 0) = true := by simp; omega
      go_enter Try.func49, Try.ntmps49
      go_wp2_with fail
      go_ret
      exact ⟨⟨_, rfl⟩, (Kept.refl _ _).alloc _⟩
  · have q : ((j : Int) == (nb : Int) - 1) = false := by simp; omega
    go_enter Try.func49, Try.ntmps49
    go_wp2_with fail
    go_ret
    exact ⟨⟨_, rfl⟩, (Kept.refl _ _).alloc _⟩
end Go.Proofs.Qxb6616210a
