/-
  PLAIN ARITHMETIC OF THE PCG SOURCE (no Go in sight): its 128-bit step is a bijection with one cycle: from every state every state is reached. So a loop that draws till a draw is taken comes to an end.
-/
namespace Go.Proofs.Qxb6616210a
namespace Pcg

def W64 : Nat := 18446744073709551616
def W128 : Nat := 340282366920938463463374607431768211456
def M : Nat := 2549297995355413924 * 18446744073709551616 + 4865540595714422341
def I : Nat := 6364136223846793005 * 18446744073709551616 + 1442695040888963407
/-- One step of the state. -/
def nx (S : Nat) : Nat := (S * M + I) % W128
/-- m steps of whatever f. -/
def iter (f : Nat → Nat) : Nat → Nat → Nat
  | 0, S => S
  | m + 1, S => iter f m (f S)
theorem iter_succ (f : Nat → Nat) (m S : Nat) : iter f (m + 1) S = iter f m (f S) := rfl
theorem iter_zero (f : Nat → Nat) (S : Nat) : iter f 0 S = S := rfl
/-- m steps. -/
def it (m S : Nat) : Nat := iter nx m S
/-- One step without the remainder. -/
def lin (x : Nat) : Nat := x * M + I
/-- m steps without the remainder. -/
def gi (m x : Nat) : Nat := iter lin m x
theorem it_zero (S : Nat) : it 0 S = S := iter_zero nx S
theorem gi_zero (S : Nat) : gi 0 S = S := iter_zero lin S
theorem it_succ (m S : Nat) : it (m + 1) S = it m (nx S) := iter_succ nx m S
theorem gi_succ (m x : Nat) : gi (m + 1) x = gi m (lin x) := iter_succ lin m x
theorem W128_pos : 0 < W128 := by decide

theorem gi_add (a b x : Nat) : gi (a + b) x = gi b (gi a x) := by
  induction a generalizing x with
  | zero => rw [Nat.zero_add, gi_zero]
  | succ a ih => rw [Nat.succ_add, gi_succ, gi_succ]; exact ih _

theorem gi_mod (m : Nat) : ∀ x y : Nat, x % W128 = y % W128 → gi m x % W128 = gi m y % W128 := by
  induction m with
  | zero => intro x y h; rw [gi_zero, gi_zero]; exact h
  | succ m ih =>
    intro x y h
    rw [gi_succ, gi_succ]
    refine ih _ _ ?_
    unfold lin
    rw [Nat.add_mod, Nat.mul_mod, h, ← Nat.mul_mod, ← Nat.add_mod]

theorem it_gi (m : Nat) : ∀ S, S < W128 → it m S = gi m S % W128 := by
  induction m with
  | zero => intro S h; rw [it_zero, gi_zero, Nat.mod_eq_of_lt h]
  | succ m ih =>
    intro S _
    rw [it_succ, gi_succ, ih (nx S) (Nat.mod_lt _ W128_pos)]
    refine gi_mod m _ _ ?_
    unfold nx lin
    exact Nat.mod_mod _ _

theorem nx_lt (S : Nat) : nx S < W128 := Nat.mod_lt _ W128_pos

theorem sq (p q x r : Nat) : (1 + 4 * p * q) * ((1 + 4 * p * q) * x + p * (1 + 2 * r)) + p * (1 + 2 * r) = (1 + 4 * (2 * p) * (q + 2 * p * q * q)) * x + 2 * p * (1 + 2 * (r + p * q * (1 + 2 * r))) := by grind

/-- 2^k steps are x ↦ A x + C with A = 1 + 4 2^k q, C = 2^k (1 + 2 r). -/
theorem pow_step (k : Nat) : ∃ q r : Nat, ∀ x, gi (2 ^ k) x = (1 + 4 * 2 ^ k * q) * x + 2 ^ k * (1 + 2 * r) := by
  induction k with
  | zero =>
    refine ⟨(M - 1) / 4, (I - 1) / 2, fun x => ?_⟩
    rw [Nat.pow_zero, gi_succ, gi_zero]
    show x * M + I = (1 + 4 * 1 * ((M - 1) / 4)) * x + 1 * (1 + 2 * ((I - 1) / 2))
    have h1 : 1 + 4 * 1 * ((M - 1) / 4) = M := by decide
    have h2 : 1 * (1 + 2 * ((I - 1) / 2)) = I := by decide
    rw [h1, h2, Nat.mul_comm]
  | succ k ih =>
    obtain ⟨q, r, h⟩ := ih
    refine ⟨q + 2 * 2 ^ k * q * q, r + 2 ^ k * q * (1 + 2 * r), fun x => ?_⟩
    have e : 2 ^ (k + 1) = 2 ^ k + 2 ^ k := by rw [Nat.pow_succ]; omega
    rw [e, gi_add, h, h]
    rw [← Nat.two_mul]
    exact sq (2 ^ k) q x r

theorem reach (k : Nat) (x y : Nat) : ∃ m, gi m x % 2 ^ k = y % 2 ^ k := by
  induction k with
  | zero => exact ⟨0, by simp [Nat.mod_one]⟩
  | succ k ih =>
    obtain ⟨m, hm⟩ := ih
    obtain ⟨q, r, h⟩ := pow_step k
    by_cases e : gi m x % 2 ^ (k + 1) = y % 2 ^ (k + 1)
    · exact ⟨m, e⟩
    · refine ⟨m + 2 ^ k, ?_⟩
      rw [gi_add, h]
      generalize gi m x = z at *
      have e2 : (2 : Nat) ^ (k + 1) = 2 * 2 ^ k := by rw [Nat.pow_succ]; omega
      rw [e2] at e ⊢
      have hp : 0 < 2 ^ k := Nat.pow_pos (by decide)
      generalize (2 : Nat) ^ k = p at *
      have e3 : (1 + 4 * p * q) * z + p * (1 + 2 * r) = (z + p) + 2 * p * (2 * q * z + r) := by grind
      rw [e3, Nat.add_mul_mod_self_left]
      have hz := Nat.div_add_mod z p
      have hy := Nat.div_add_mod y p
      rw [hm] at hz
      have hr : y % p < p := Nat.mod_lt _ hp
      generalize z / p = a at *
      generalize y / p = b at *
      generalize y % p = c at *
      subst hz
      subst hy
      have key : ∀ t : Nat, (p * t + c) % (2 * p) = if t % 2 = 0 then c else p + c := by
        intro t
        have ht := Nat.div_add_mod t 2
        generalize t / 2 = s at *
        split
        · rename_i h0
          have : p * t + c = c + 2 * p * s := by rw [← ht, h0]; grind
          rw [this, Nat.add_mul_mod_self_left]
          exact Nat.mod_eq_of_lt (by omega)
        · rename_i h0
          have h1 : t % 2 = 1 := by omega
          have : p * t + c = (p + c) + 2 * p * s := by rw [← ht, h1]; grind
          rw [this, Nat.add_mul_mod_self_left]
          exact Nat.mod_eq_of_lt (by omega)
      have e4 : p * a + c + p = p * (a + 1) + c := by grind
      rw [e4, key, key]
      rw [key, key] at e
      have h1 : (a + 1) % 2 = 0 ↔ ¬ a % 2 = 0 := by omega
      clear key hm
      by_cases ha : a % 2 = 0 <;> by_cases hb : b % 2 = 0 <;> simp [h1, ha, hb] at e ⊢

/-- From every state every state is reached. -/
theorem reaches (S T : Nat) (hS : S < W128) (hT : T < W128) : ∃ m, it m S = T := by
  obtain ⟨m, hm⟩ := reach 128 S T
  refine ⟨m, ?_⟩
  have e : (2 : Nat) ^ 128 = W128 := by decide
  rw [e] at hm
  rw [it_gi m S hS, hm, Nat.mod_eq_of_lt hT]

/-! ### What is drawn -/
def h1 (hi : Nat) : Nat := hi ^^^ (hi / 4294967296)
def h2 (hi : Nat) : Nat := h1 hi * 15750249268501108917 % 18446744073709551616
def h3 (hi : Nat) : Nat := h2 hi ^^^ (h2 hi / 281474976710656)
def out (hi lo : Nat) : Nat := h3 hi * (lo ||| 1) % 18446744073709551616
/-- The number that the state S gives. -/
def outN (S : Nat) : Nat := out (S / 18446744073709551616) (S % 18446744073709551616)
theorem outN_lt (S : Nat) : outN S < 18446744073709551616 := Nat.mod_lt _ (by decide)

/-- A state that gives 1. -/
def T0 : Nat := 10053033840993720478 * 18446744073709551616
theorem T0_lt : T0 < W128 := by decide
theorem outN_T0 : outN T0 = 1 := by decide

/-- uint64n's threshold. -/
def th (n : Nat) : Nat := (18446744073709551616 - n) % n
/-- The draw at S is taken. -/
def acc (n S : Nat) : Prop := th n ≤ outN S * n % 18446744073709551616

theorem acc_T0 (n : Nat) (h0 : 0 < n) (hn : n < 18446744073709551616) : acc n T0 := by
  unfold acc th
  rw [outN_T0, Nat.one_mul, Nat.mod_eq_of_lt hn]
  exact Nat.le_of_lt (Nat.mod_lt _ h0)

theorem acc_some (n S : Nat) (h0 : 0 < n) (hn : n < 18446744073709551616) (hS : S < W128) : ∃ m, acc n (it m S) := by
  obtain ⟨m, hm⟩ := reaches S T0 hS T0_lt
  exact ⟨m, by rw [hm]; exact acc_T0 n h0 hn⟩

/-- 'uint64n(n)' at the state S gives v and leaves the state S'. -/
def Rolls (S n v S' : Nat) : Prop :=
  (n &&& (n - 1) = 0 ∧ S' = nx S ∧ v = outN (nx S) &&& (n - 1)) ∨
  (n &&& (n - 1) ≠ 0 ∧ ∃ m, S' = it m (nx S) ∧ v = outN S' * n / 18446744073709551616 ∧ acc n S' ∧ ∀ j, j < m → ¬ acc n (it j (nx S)))

theorem Rolls.lt {S n v S' : Nat} (h : Rolls S n v S') (h0 : 0 < n) : v < n := by
  rcases h with ⟨_, _, rfl⟩ | ⟨_, m, _, rfl, _⟩
  · have := Nat.and_le_right (n := outN (nx S)) (m := n - 1)
    omega
  · have := outN_lt S'
    rw [Nat.div_lt_iff_lt_mul (by decide), Nat.mul_comm n]
    exact (Nat.mul_lt_mul_right h0).2 this

theorem it_lt (m S : Nat) (h : S < W128) : it m S < W128 := by
  induction m generalizing S with
  | zero => rw [it_zero]; exact h
  | succ m ih => rw [it_succ]; exact ih _ (nx_lt S)

theorem Rolls.state {S n v S' : Nat} (h : Rolls S n v S') : S' < W128 := by
  rcases h with ⟨_, e, _⟩ | ⟨_, m, e, _⟩
  · rw [e]; exact nx_lt S
  · rw [e]; exact it_lt m _ (nx_lt S)

theorem Rolls.one {S n v S' v2 S2 : Nat} (h : Rolls S n v S') (k : Rolls S n v2 S2) : v2 = v ∧ S2 = S' := by
  rcases h with ⟨p, e1, e2⟩ | ⟨p, m, e1, e2, am, bm⟩
  · rcases k with ⟨_, f1, f2⟩ | ⟨q, _⟩
    · exact ⟨by rw [e2, f2], by rw [e1, f1]⟩
    · exact absurd p q
  · rcases k with ⟨q, _⟩ | ⟨_, m2, f1, f2, am2, bm2⟩
    · exact absurd q p
    · have e : m2 = m := by
        rcases Nat.lt_trichotomy m2 m with h | h | h
        · exact absurd (by rw [← f1]; exact am2) (bm m2 h)
        · exact h
        · exact absurd (by rw [← e1]; exact am) (bm2 m h)
      subst e
      have g : S2 = S' := by rw [e1, f1]
      exact ⟨by rw [e2, f2, g], g⟩

/-! ### The step as the Go text reckons it: two halves -/
theorem halves_aux (c d i j : Nat) :
    ((c + i) * 18446744073709551616 + d + j) % 340282366920938463463374607431768211456 =
      ((d / 18446744073709551616 + c + i + (d % 18446744073709551616 + j) / 18446744073709551616) % 18446744073709551616) * 18446744073709551616 + (d % 18446744073709551616 + j) % 18446744073709551616 := by omega
theorem split_aux (hi lo a b i j : Nat) :
    (hi * 18446744073709551616 + lo) * (a * 18446744073709551616 + b) + (i * 18446744073709551616 + j) =
      ((hi * b + lo * a + i) * 18446744073709551616 + lo * b + j) + 340282366920938463463374607431768211456 * (hi * a) := by grind
/-- The school method: lo * mulLo, then hi * mulLo + lo * mulHi, then the two additions with carry. -/
theorem nx_halves (hi lo : Nat) :
    nx (hi * 18446744073709551616 + lo) =
      ((lo * 4865540595714422341 / 18446744073709551616 + (hi * 4865540595714422341 + lo * 2549297995355413924) + 6364136223846793005 + (lo * 4865540595714422341 % 18446744073709551616 + 1442695040888963407) / 18446744073709551616) % 18446744073709551616) * 18446744073709551616
      + (lo * 4865540595714422341 % 18446744073709551616 + 1442695040888963407) % 18446744073709551616 := by
  unfold nx M I W128
  rw [split_aux, Nat.add_mul_mod_self_left, halves_aux]

end Pcg
end Go.Proofs.Qxb6616210a
