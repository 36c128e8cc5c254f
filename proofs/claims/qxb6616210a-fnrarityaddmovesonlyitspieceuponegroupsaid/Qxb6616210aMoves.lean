/-
  THE PLAIN LAW OF ONE MORE 'add' (no Go in sight): what FnRarityAddMovesOnlyItsPieceUpOneGroup asks of it.
-/
import Derived.Test.Qxb6616210aOrder
namespace Go.Proofs.Qxb6616210a

/-- How many of the first n places differ. -/
def dif (f g : Nat → Nat) : Nat → Nat
  | 0 => 0
  | n + 1 => dif f g n + if f n = g n then 0 else 1
/-- How many of the three places lie below n. -/
def hit (a n : Nat) : Nat := if a < n then 1 else 0
theorem dif_le (f g : Nat → Nat) (a b c : Nat) (h : ∀ x, x ≠ a → x ≠ b → x ≠ c → f x = g x) : ∀ n, dif f g n ≤ hit a n + hit b n + hit c n
  | 0 => Nat.zero_le _
  | n + 1 => by
    have ih := dif_le f g a b c h n
    have mono : ∀ y, hit y n ≤ hit y (n + 1) := fun y => by unfold hit; split <;> split <;> omega
    have := mono a
    have := mono b
    have := mono c
    simp only [dif]
    by_cases e : f n = g n
    · rw [if_pos e]; omega
    · rw [if_neg e]
      have one : hit n n + 1 ≤ hit n (n + 1) := by unfold hit; split <;> split <;> omega
      by_cases ea : n = a
      · subst ea; omega
      · by_cases eb : n = b
        · subst eb; omega
        · by_cases ec : n = c
          · subst ec; omega
          · exact absurd (h n ea eb ec) e
theorem dif_three (f g : Nat → Nat) (a b c : Nat) (h : ∀ x, x ≠ a → x ≠ b → x ≠ c → f x = g x) (n : Nat) : dif f g n ≤ 3 := by
  have := dif_le f g a b c h n
  have : ∀ y, hit y n ≤ 1 := fun y => by unfold hit; split <;> omega
  have := this a
  have := ‹∀ y, hit y n ≤ 1› b
  have := ‹∀ y, hit y n ≤ 1› c
  omega

/-- What one more 'add' of piece i does. -/
structure Moved (R T : RS) (i : Nat) : Prop where
  n : T.n = R.n
  grpI : T.group i = R.group i + 1
  grp : ∀ j, j ≠ i → T.group j = R.group j
  topYes : R.group i + 2 = R.len → (∀ j, j < R.n → R.group j ≤ R.group i) ∧ T.len = R.len + 1 ∧ T.start R.len = R.n
  topNo : R.group i + 2 ≠ R.len → (∃ j, j < R.n ∧ R.group i < R.group j) ∧ T.len = R.len
  gin : R.group i + 1 < R.len
  gin2 : R.group i + 2 < T.len
  one : 1 ≤ R.start (R.group i + 1)
  startI : T.start (R.group i + 1) = R.start (R.group i + 1) - 1
  start : ∀ h, h < R.len → h ≠ R.group i + 1 → T.start h = R.start h
  three : dif T.order R.order R.n ≤ 3
  pos : ∀ j, j < R.n → j ≠ i → R.group j ≠ R.group i → R.group j ≠ R.group i + 1 → T.pos j = R.pos j
  lo : T.start (R.group i + 1) ≤ T.pos i
  hi : T.pos i < T.start (R.group i + 2)
  plt : T.pos i < R.n
  back : T.order (T.pos i) = i

theorem addR_moved {R : RS} (I : Inv R) {i : Nat} (hi : i < R.n) {v S' : Nat} (hv : v < room R i S') : Moved R (addR R i v S') i := by
  have J := mid_inv I hi S'
  have A := addR_inv I hi hv
  obtain ⟨g1, g2⟩ := I.grp i hi
  obtain ⟨e1, e2, e3, e4⟩ := I.ends hi
  obtain ⟨r1, r2, r3, r4⟩ := room_pos I hi S'
  have hin := A.inside i hi
  have hpo := A.posOrd i hi
  rw [addR_group, upd_same] at hin
  have mg := mid_group R i S'
  have ms1 := mid_start1 R i S'
  have st : ∀ h, h < R.len → h ≠ R.group i + 1 → (addR R i v S').start h = R.start h := by
    intro h hh hne
    show upd (if R.group i + 2 = R.len then upd R.start R.len R.n else R.start) (R.group i + 1) (R.start (R.group i + 1) - 1) h = _
    rw [upd_ne _ _ hne]
    split
    · rw [upd_ne _ _ (by omega)]
    · rfl
  -- the last swap's second place, and who stands there
  obtain ⟨y, hy⟩ : ∃ y, (midR R i S').start (R.group i + 1) + v = y := ⟨_, rfl⟩
  have ygrp : (midR R i S').group ((midR R i S').order y) = R.group i + 1 := J.inStretch (by rw [show R.group i + 1 + 1 = R.group i + 2 by omega]; exact r4) (show y < R.n by omega) (by omega) (by rw [show R.group i + 1 + 1 = R.group i + 2 by omega]; omega)
  have hmi : (midR R i S').order ((midR R i S').pos i) = i := (J.posOrd i hi).2
  have hmp := mid_pos I hi S'
  refine ⟨rfl, ?_, fun j hj => ?_, fun e => ⟨fun j hj => ?_, ?_, ?_⟩, fun e => ⟨?_, ?_⟩, by omega, ?_, by omega, ?_, st, ?_, fun j hj ji jg jg1 => ?_, hin.1, hin.2, hpo.1, hpo.2⟩
  · rw [addR_group, upd_same]
  · rw [addR_group, upd_ne _ _ hj]
  · have := I.grp j hj; omega
  · rw [addR_len, if_pos e]
  · show upd (if R.group i + 2 = R.len then upd R.start R.len R.n else R.start) (R.group i + 1) (R.start (R.group i + 1) - 1) R.len = _
    rw [upd_ne _ _ (by omega), if_pos e, upd_same]
  · rcases I.top with h | ⟨j, hj, h⟩
    · omega
    · exact ⟨j, hj, by omega⟩
  · rw [addR_len, if_neg e]
  · have := A.grp i hi
    rw [addR_group, upd_same] at this
    omega
  · rw [addR_mid]
    exact ms1
  · refine dif_three _ _ (R.pos i) (R.start (R.group i + 1) - 1) y (fun x h1 h2 h3 => ?_) _
    rw [addR_mid]
    show swp (midR R i S').order _ _ x = _
    unfold swp
    rw [hy, upd_ne _ _ h3, upd_ne _ _ (by rw [hmp]; exact h2)]
    show swp R.order _ _ x = _
    unfold swp
    rw [upd_ne _ _ h2, upd_ne _ _ h1]
  · have jy : j ≠ (midR R i S').order y := fun h => by
      rw [← h, mg, upd_ne _ _ ji] at ygrp
      exact jg1 ygrp
    have jl : j ≠ R.order (R.start (R.group i + 1) - 1) := fun h => jg (by rw [h]; exact e4)
    rw [addR_mid]
    show upd (upd (midR R i S').pos _ _) _ _ j = _
    rw [hy, hmi, upd_ne _ _ jy, upd_ne _ _ ji]
    show upd (upd R.pos _ _) _ _ j = _
    rw [(I.posOrd i hi).2, upd_ne _ _ jl, upd_ne _ _ ji]
end Go.Proofs.Qxb6616210a
