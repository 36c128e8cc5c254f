/-
  THE PLAIN LAW: under 'Dom' the entry that 'clockEntry' reckons is the one that 'get' finds: the own line, the entry aside, the tree's.
-/
import Derived.Test.Qxb6616202aPlain
namespace Go.Proofs.Qxb6616202a
variable {T : Nat → Int} {own ownLine : Int} {aT aL : Nat → Int} {t : Int}

theorem EL_stay {m n : Nat} (hmn : m ≤ n) (h : ∀ i, m ≤ i → i < n → aT i ≠ t) : EL T own ownLine aT aL t n = EL T own ownLine aT aL t m := by
  induction n with
  | zero => obtain rfl : m = 0 := by omega
            rfl
  | succ n ih =>
    by_cases e : m = n + 1
    · rw [e]
    · have hn := h n (by omega) (by omega)
      rw [← ih (by omega) (fun i h1 h2 => h i h1 (by omega))]
      simp [EL, hn]

theorem EL_own {k : Nat} (d : Dom T own ownLine aT aL k) (h0 : 0 < ownLine) : EL T own ownLine aT aL own k = ownLine := by
  rw [EL_stay (Nat.zero_le k) (fun i _ hi => d.aown h0 i hi)]
  have := d.treeOwn h0
  simp only [EL, e1, e0]
  by_cases h : own < 32
  · have := this h
    simp [h, h0]; omega
  · simp [h, h0]

theorem EL_first {k : Nat} (ho : ¬ (t = own ∧ 0 < ownLine)) (hn : ∀ i, i < k → aT i ≠ t) : EL T own ownLine aT aL t k = e0 T t := by
  rw [EL_stay (Nat.zero_le k) (fun i _ hi => hn i hi)]
  simp only [EL, e1]
  rw [if_neg (fun h => ho ⟨h.2.1, h.1⟩)]

theorem EL_aside {k : Nat} (d : Dom T own ownLine aT aL k) (ho : ¬ (t = own ∧ 0 < ownLine)) {i : Nat} (hi : i < k) (he : aT i = t) : EL T own ownLine aT aL t k = aL i := by
  rw [EL_stay (m := i + 1) hi (fun j h1 h2 => by rw [← he]; exact fun e => d.adist j h2 i (by omega) e.symm)]
  have h1 : EL T own ownLine aT aL t i = e0 T t := EL_first ho (fun j hj => by rw [← he]; exact d.adist i hi j hj)
  have h2 := d.atree i hi
  have h3 := d.a0 i hi
  show (if aT i = t ∧ EL T own ownLine aT aL t i < aL i then aL i else EL T own ownLine aT aL t i) = aL i
  rw [h1]
  rw [he] at h2 ⊢
  unfold e0
  by_cases h : t < 32
  · have := h2 h
    simp [h]; omega
  · simp [h]; omega

end Go.Proofs.Qxb6616202a
