/-
  THE PLAIN LAW OF THE RARITY ORDER (no Go in sight): the order of n pieces in groups, 'add', and what it keeps.
-/
namespace Go.Proofs.Qxb6616210a

def upd (f : Nat → Nat) (i v : Nat) : Nat → Nat := fun j => if j = i then v else f j
def swp (f : Nat → Nat) (i j : Nat) : Nat → Nat := upd (upd f i (f j)) j (f i)
theorem upd_same (f : Nat → Nat) (i v : Nat) : upd f i v i = v := by simp [upd]
theorem upd_ne (f : Nat → Nat) {i j : Nat} (v : Nat) (h : j ≠ i) : upd f i v j = f j := by simp [upd, h]

/-- The order of n pieces, as the fields of 'rarity' hold it, and the source's state. -/
structure RS where
  n : Nat
  len : Nat
  order : Nat → Nat
  pos : Nat → Nat
  group : Nat → Nat
  start : Nat → Nat
  S : Nat

/-- How many of the first n pieces stand in a group below h. -/
def cnt (f : Nat → Nat) : Nat → Nat → Nat
  | 0, _ => 0
  | n + 1, h => cnt f n h + if f n < h then 1 else 0

theorem cnt_le (f : Nat → Nat) (h : Nat) : ∀ n, cnt f n h ≤ n
  | 0 => Nat.le_refl _
  | n + 1 => by
    have := cnt_le f h n
    simp only [cnt]
    split <;> omega
theorem cnt_mono (f : Nat → Nat) {h k : Nat} (hk : h ≤ k) : ∀ n, cnt f n h ≤ cnt f n k
  | 0 => Nat.le_refl _
  | n + 1 => by
    have := cnt_mono f hk n
    simp only [cnt]
    split <;> split <;> omega
theorem cnt_all (f : Nat → Nat) (h : Nat) : ∀ n, (∀ i, i < n → f i < h) → cnt f n h = n
  | 0, _ => rfl
  | n + 1, hf => by
    have := cnt_all f h n (fun i hi => hf i (by omega))
    have := hf n (by omega)
    simp only [cnt]
    split <;> omega
theorem cnt_none (f : Nat → Nat) (h : Nat) : ∀ n, (∀ i, i < n → h ≤ f i) → cnt f n h = 0
  | 0, _ => rfl
  | n + 1, hf => by
    have := cnt_none f h n (fun i hi => hf i (by omega))
    have := hf n (by omega)
    simp only [cnt]
    split <;> omega
/-- One piece goes up one group: the count below that group falls by one, all others stand. -/
theorem cnt_up (f : Nat → Nat) (i h : Nat) : ∀ n, i < n → cnt (upd f i (f i + 1)) n h + (if h = f i + 1 then 1 else 0) = cnt f n h
  | 0, hi => by omega
  | n + 1, hi => by
    simp only [cnt]
    by_cases e : i = n
    · subst e
      have : cnt (upd f i (f i + 1)) i h = cnt f i h := by
        have key : ∀ m, m ≤ i → cnt (upd f i (f i + 1)) m h = cnt f m h := by
          intro m
          induction m with
          | zero => intro _; rfl
          | succ m ih =>
            intro hm
            simp only [cnt]
            rw [ih (by omega), upd_ne _ _ (by omega)]
        exact key i (Nat.le_refl _)
      rw [this, upd_same]
      split <;> split <;> split <;> omega
    · have := cnt_up f i h n (by omega)
      rw [upd_ne _ _ (fun h => e h.symm)]
      split <;> omega

/-- What holds of the order at every time. -/
structure Inv (R : RS) : Prop where
  posOrd : ∀ i, i < R.n → R.pos i < R.n ∧ R.order (R.pos i) = i
  ordPos : ∀ x, x < R.n → R.order x < R.n ∧ R.pos (R.order x) = x
  grp : ∀ i, i < R.n → 1 ≤ R.group i ∧ R.group i + 2 ≤ R.len
  len3 : 3 ≤ R.len
  top : R.len = 3 ∨ ∃ i, i < R.n ∧ R.group i + 2 = R.len
  count : ∀ h, h < R.len → R.start h = cnt R.group R.n h
  inside : ∀ i, i < R.n → R.start (R.group i) ≤ R.pos i ∧ R.pos i < R.start (R.group i + 1)

theorem Inv.mono {R : RS} (I : Inv R) {h k : Nat} (hk : h ≤ k) (hl : k < R.len) : R.start h ≤ R.start k := by
  rw [I.count h (by omega), I.count k hl]
  exact cnt_mono _ hk _
theorem Inv.le {R : RS} (I : Inv R) {h : Nat} (hl : h < R.len) : R.start h ≤ R.n := by
  rw [I.count h hl]; exact cnt_le _ _ _
theorem Inv.last {R : RS} (I : Inv R) : R.start (R.len - 1) = R.n := by
  have := I.len3
  rw [I.count _ (by omega)]
  exact cnt_all _ _ _ (fun i hi => by have := I.grp i hi; omega)
/-- Who stands in the stretch of group g is in group g. -/
theorem Inv.inStretch {R : RS} (I : Inv R) {g x : Nat} (hg : g + 1 < R.len) (hx : x < R.n) (h1 : R.start g ≤ x) (h2 : x < R.start (g + 1)) : R.group (R.order x) = g := by
  obtain ⟨ho, hp⟩ := I.ordPos x hx
  obtain ⟨a, b⟩ := I.inside _ ho
  obtain ⟨_, hl⟩ := I.grp _ ho
  rw [hp] at a b
  rcases Nat.lt_trichotomy (R.group (R.order x)) g with h | h | h
  · have := I.mono (h := R.group (R.order x) + 1) (k := g) (by omega) (by omega)
    omega
  · exact h
  · have := I.mono (h := g + 1) (k := R.group (R.order x)) (by omega) (by omega)
    omega

/-- 'swap(x, y)'. -/
def swapR (R : RS) (x y : Nat) : RS := { R with order := swp R.order x y, pos := upd (upd R.pos (R.order x) y) (R.order y) x }

theorem swapR_inv {R : RS} (I : Inv R) {x y : Nat} (hx : x < R.n) (hy : y < R.n) (hg : R.group (R.order x) = R.group (R.order y)) : Inv (swapR R x y) := by
  obtain ⟨ox, px⟩ := I.ordPos x hx
  obtain ⟨oy, py⟩ := I.ordPos y hy
  have inj : ∀ z, z < R.n → R.order z = R.order x → z = x := fun z hz e => by
    have := (I.ordPos z hz).2; rw [e, px] at this; exact this.symm
  have inj2 : ∀ z, z < R.n → R.order z = R.order y → z = y := fun z hz e => by
    have := (I.ordPos z hz).2; rw [e, py] at this; exact this.symm
  have pinj : ∀ i, i < R.n → R.pos i = x → i = R.order x := fun i hi e => by rw [← e, (I.posOrd i hi).2]
  have pinj2 : ∀ i, i < R.n → R.pos i = y → i = R.order y := fun i hi e => by rw [← e, (I.posOrd i hi).2]
  refine ⟨fun i hi => ?_, fun z hz => ?_, I.grp, I.len3, I.top, I.count, fun i hi => ?_⟩
  · show upd (upd R.pos (R.order x) y) (R.order y) x i < R.n ∧ swp R.order x y (upd (upd R.pos (R.order x) y) (R.order y) x i) = i
    obtain ⟨a, b⟩ := I.posOrd i hi
    by_cases e1 : i = R.order y
    · rw [e1, upd_same]
      refine ⟨hx, ?_⟩
      unfold swp
      by_cases e : x = y
      · rw [e, upd_same]
      · rw [upd_ne _ _ e, upd_same]
    · rw [upd_ne _ _ e1]
      by_cases e2 : i = R.order x
      · rw [e2, upd_same]
        refine ⟨hy, ?_⟩
        unfold swp
        rw [upd_same]
      · rw [upd_ne _ _ e2]
        refine ⟨a, ?_⟩
        unfold swp
        rw [upd_ne _ _ (fun h => e1 (pinj2 i hi h)), upd_ne _ _ (fun h => e2 (pinj i hi h)), b]
  · show swp R.order x y z < R.n ∧ upd (upd R.pos (R.order x) y) (R.order y) x (swp R.order x y z) = z
    obtain ⟨a, b⟩ := I.ordPos z hz
    unfold swp
    by_cases e1 : z = y
    · rw [e1, upd_same]
      refine ⟨ox, ?_⟩
      by_cases e : R.order x = R.order y
      · have := inj2 x hx e
        rw [e, upd_same]; exact this
      · rw [upd_ne _ _ e, upd_same]
    · rw [upd_ne _ _ e1]
      by_cases e2 : z = x
      · rw [e2, upd_same]
        exact ⟨oy, upd_same _ _ _⟩
      · rw [upd_ne _ _ e2]
        refine ⟨a, ?_⟩
        rw [upd_ne _ _ (fun h => e1 (inj2 z hz h)), upd_ne _ _ (fun h => e2 (inj z hz h)), b]
  · show R.start (R.group i) ≤ upd (upd R.pos (R.order x) y) (R.order y) x i ∧ upd (upd R.pos (R.order x) y) (R.order y) x i < R.start (R.group i + 1)
    by_cases e1 : i = R.order y
    · rw [e1, upd_same, ← hg]
      have := I.inside _ ox
      rw [px] at this
      exact this
    · rw [upd_ne _ _ e1]
      by_cases e2 : i = R.order x
      · rw [e2, upd_same, hg]
        have := I.inside _ oy
        rw [py] at this
        exact this
      · rw [upd_ne _ _ e2]
        exact I.inside i hi

/-- Piece i, the last of its group's stretch, becomes the first of the next group; the groups grow where i was in the highest. -/
def bump (R : RS) (i : Nat) : RS :=
  { R with
    len := if R.group i + 2 = R.len then R.len + 1 else R.len
    start := upd (if R.group i + 2 = R.len then upd R.start R.len R.n else R.start) (R.group i + 1) (R.start (R.group i + 1) - 1)
    group := upd R.group i (R.group i + 1) }

theorem bump_start {R : RS} (I : Inv R) {i : Nat} (hi : i < R.n) {h : Nat} (hh : h < (bump R i).len) : (bump R i).start h = cnt (bump R i).group R.n h := by
  obtain ⟨g1, g2⟩ := I.grp i hi
  have hup := cnt_up R.group i h R.n hi
  show upd (if R.group i + 2 = R.len then upd R.start R.len R.n else R.start) (R.group i + 1) (R.start (R.group i + 1) - 1) h = cnt (upd R.group i (R.group i + 1)) R.n h
  by_cases e1 : h = R.group i + 1
  · rw [e1, upd_same]
    rw [e1, if_pos rfl] at hup
    rw [I.count _ (by omega)]
    omega
  · rw [upd_ne _ _ e1]
    rw [if_neg e1] at hup
    by_cases e2 : R.group i + 2 = R.len
    · rw [if_pos e2]
      by_cases e3 : h = R.len
      · rw [e3, upd_same]
        symm
        refine cnt_all _ _ _ (fun j hj => ?_)
        have := I.grp j hj
        unfold upd
        split <;> omega
      · rw [upd_ne _ _ e3]
        have : (bump R i).len = R.len + 1 := by simp [bump, e2]
        rw [I.count h (by omega)]
        omega
    · rw [if_neg e2]
      have : (bump R i).len = R.len := by simp [bump, e2]
      rw [I.count h (by omega)]
      omega

theorem bump_inv {R : RS} (I : Inv R) {i : Nat} (hi : i < R.n) (hl : R.pos i + 1 = R.start (R.group i + 1)) : Inv (bump R i) := by
  obtain ⟨g1, g2⟩ := I.grp i hi
  have hlen : R.len ≤ (bump R i).len := by simp only [bump]; split <;> omega
  have st : ∀ h, h < R.len → h ≠ R.group i + 1 → (bump R i).start h = R.start h := by
    intro h hh hne
    show upd (if R.group i + 2 = R.len then upd R.start R.len R.n else R.start) (R.group i + 1) (R.start (R.group i + 1) - 1) h = _
    rw [upd_ne _ _ hne]
    split
    · rw [upd_ne _ _ (by omega)]
    · rfl
  have st1 : (bump R i).start (R.group i + 1) = R.pos i := by
    show upd _ _ _ _ = _
    rw [upd_same]; omega
  refine ⟨I.posOrd, I.ordPos, fun j hj => ?_, Nat.le_trans I.len3 hlen, ?_, fun h hh => bump_start I hi hh, fun j hj => ?_⟩
  · show 1 ≤ upd R.group i (R.group i + 1) j ∧ upd R.group i (R.group i + 1) j + 2 ≤ (bump R i).len
    obtain ⟨a, b⟩ := I.grp j hj
    by_cases e : j = i
    · rw [e, upd_same]
      refine ⟨by omega, ?_⟩
      simp only [bump]; split <;> omega
    · rw [upd_ne _ _ e]; omega
  · right
    rcases I.top with h | ⟨j, hj, h⟩
    · by_cases e : R.group i + 2 = R.len
      · refine ⟨i, hi, ?_⟩
        show upd R.group i (R.group i + 1) i + 2 = (bump R i).len
        rw [upd_same]
        simp only [bump]; rw [if_pos e]; omega
      · omega
    · by_cases e : R.group i + 2 = R.len
      · refine ⟨i, hi, ?_⟩
        show upd R.group i (R.group i + 1) i + 2 = (bump R i).len
        rw [upd_same]
        simp only [bump]; rw [if_pos e]; omega
      · refine ⟨j, hj, ?_⟩
        show upd R.group i (R.group i + 1) j + 2 = (bump R i).len
        rw [upd_ne _ _ (fun h' => by rw [h'] at h; exact e h)]
        simp only [bump]; rw [if_neg e]; exact h
  · show (bump R i).start (upd R.group i (R.group i + 1) j) ≤ R.pos j ∧ R.pos j < (bump R i).start (upd R.group i (R.group i + 1) j + 1)
    obtain ⟨a, b⟩ := I.inside j hj
    obtain ⟨c, d⟩ := I.grp j hj
    by_cases e : j = i
    · rw [e, upd_same, st1]
      refine ⟨Nat.le_refl _, ?_⟩
      by_cases e2 : R.group i + 2 = R.len
      · have : (bump R i).start (R.group i + 1 + 1) = R.n := by
          show upd (if R.group i + 2 = R.len then upd R.start R.len R.n else R.start) _ _ _ = _
          rw [upd_ne _ _ (by omega), if_pos e2]
          rw [show R.group i + 1 + 1 = R.len by omega, upd_same]
        rw [this]
        exact (I.posOrd i hi).1
      · rw [st _ (by omega) (by omega)]
        have := I.mono (h := R.group i + 1) (k := R.group i + 1 + 1) (by omega) (by omega)
        omega
    · rw [upd_ne _ _ e]
      have hne : R.pos j ≠ R.pos i := fun h => e (by rw [← (I.posOrd j hj).2, h, (I.posOrd i hi).2])
      have lo : (bump R i).start (R.group j) ≤ R.start (R.group j) := by
        by_cases e3 : R.group j = R.group i + 1
        · rw [e3, st1]; omega
        · rw [st _ (by omega) e3]; exact Nat.le_refl _
      refine ⟨Nat.le_trans lo a, ?_⟩
      by_cases e4 : R.group j = R.group i
      · rw [e4, st1]
        rw [e4] at b
        omega
      · rw [st _ (by omega) (by omega)]; exact b

/-- 'add(i)' where the roll gives v and leaves S'. -/
def addR (R : RS) (i v S' : Nat) : RS :=
  let R1 := swapR R (R.pos i) (R.start (R.group i + 1) - 1)
  let R2 := { bump R1 i with S := S' }
  swapR R2 (R2.pos i) (R2.start (R.group i + 1) + v)

/-- The first swap of 'add': the last place of i's group. -/
theorem Inv.ends {R : RS} (I : Inv R) {i : Nat} (hi : i < R.n) :
    R.pos i ≤ R.start (R.group i + 1) - 1 ∧ R.start (R.group i + 1) - 1 < R.n ∧ R.start (R.group i + 1) = R.start (R.group i + 1) - 1 + 1 ∧ R.group (R.order (R.start (R.group i + 1) - 1)) = R.group i := by
  obtain ⟨a, b⟩ := I.inside i hi
  obtain ⟨c, d⟩ := I.grp i hi
  have hle := I.le (h := R.group i + 1) (by omega)
  refine ⟨by omega, by omega, by omega, ?_⟩
  exact I.inStretch (by omega) (by omega) (by omega) (by omega)

theorem first_inv {R : RS} (I : Inv R) {i : Nat} (hi : i < R.n) : Inv (swapR R (R.pos i) (R.start (R.group i + 1) - 1)) := by
  obtain ⟨_, h2, _, h4⟩ := I.ends hi
  refine swapR_inv I (I.posOrd i hi).1 h2 ?_
  rw [h4, (I.posOrd i hi).2]

theorem first_pos {R : RS} (I : Inv R) {i : Nat} (hi : i < R.n) : (swapR R (R.pos i) (R.start (R.group i + 1) - 1)).pos i = R.start (R.group i + 1) - 1 := by
  obtain ⟨_, h2, _, _⟩ := I.ends hi
  show upd (upd R.pos (R.order (R.pos i)) (R.start (R.group i + 1) - 1)) (R.order (R.start (R.group i + 1) - 1)) (R.pos i) i = _
  rw [(I.posOrd i hi).2]
  by_cases e : i = R.order (R.start (R.group i + 1) - 1)
  · have := (I.ordPos _ h2).2
    rw [← e] at this
    rw [← e, upd_same]; exact this
  · rw [upd_ne _ _ e, upd_same]

/-- What 'add' has made ahead of its last swap. -/
def midR (R : RS) (i S' : Nat) : RS := { bump (swapR R (R.pos i) (R.start (R.group i + 1) - 1)) i with S := S' }

theorem mid_inv {R : RS} (I : Inv R) {i : Nat} (hi : i < R.n) (S' : Nat) : Inv (midR R i S') := by
  obtain ⟨_, _, h3, _⟩ := I.ends hi
  have := bump_inv (first_inv I hi) (i := i) hi (by rw [first_pos I hi]; exact h3.symm)
  exact ⟨this.posOrd, this.ordPos, this.grp, this.len3, this.top, this.count, this.inside⟩

theorem mid_group (R : RS) (i S' : Nat) : (midR R i S').group = upd R.group i (R.group i + 1) := rfl
theorem mid_n (R : RS) (i S' : Nat) : (midR R i S').n = R.n := rfl
theorem mid_S (R : RS) (i S' : Nat) : (midR R i S').S = S' := rfl
theorem mid_pos {R : RS} (I : Inv R) {i : Nat} (hi : i < R.n) (S' : Nat) : (midR R i S').pos i = R.start (R.group i + 1) - 1 := first_pos I hi
theorem mid_start1 (R : RS) (i S' : Nat) : (midR R i S').start (R.group i + 1) = R.start (R.group i + 1) - 1 := by
  show upd _ (R.group i + 1) (R.start (R.group i + 1) - 1) (R.group i + 1) = _
  rw [upd_same]
theorem addR_mid (R : RS) (i v S' : Nat) : addR R i v S' = swapR (midR R i S') ((midR R i S').pos i) ((midR R i S').start (R.group i + 1) + v) := rfl

/-- How many places the new group has: what 'shuffle' rolls under. -/
def room (R : RS) (i S' : Nat) : Nat := (midR R i S').start (R.group i + 2) - (midR R i S').start (R.group i + 1)

theorem room_pos {R : RS} (I : Inv R) {i : Nat} (hi : i < R.n) (S' : Nat) : 0 < room R i S' ∧ (midR R i S').start (R.group i + 1) + room R i S' = (midR R i S').start (R.group i + 2) ∧ (midR R i S').start (R.group i + 2) ≤ R.n ∧ R.group i + 2 < (midR R i S').len := by
  have J := mid_inv I hi S'
  have h := J.inside i hi
  have g := J.grp i hi
  rw [mid_group, upd_same] at h g
  have hl := J.le (h := R.group i + 2) (by omega)
  rw [mid_n] at hl
  unfold room
  rw [show R.group i + 1 + 1 = R.group i + 2 by omega] at h
  refine ⟨by omega, by omega, hl, by omega⟩

theorem addR_inv {R : RS} (I : Inv R) {i : Nat} (hi : i < R.n) {v S' : Nat} (hv : v < room R i S') : Inv (addR R i v S') := by
  have J := mid_inv I hi S'
  obtain ⟨h1, h2, h3, h4⟩ := room_pos I hi S'
  rw [addR_mid]
  refine swapR_inv J (J.posOrd i hi).1 (by rw [mid_n]; omega) ?_
  rw [(J.posOrd i hi).2]
  have : (midR R i S').group ((midR R i S').order ((midR R i S').start (R.group i + 1) + v)) = R.group i + 1 :=
    J.inStretch (g := R.group i + 1) (by omega) (by rw [mid_n]; omega) (by omega) (by rw [show R.group i + 1 + 1 = R.group i + 2 by omega]; omega)
  rw [this, mid_group, upd_same]

theorem addR_group (R : RS) (i v S' : Nat) : (addR R i v S').group = upd R.group i (R.group i + 1) := rfl
theorem addR_n (R : RS) (i v S' : Nat) : (addR R i v S').n = R.n := rfl
theorem addR_S (R : RS) (i v S' : Nat) : (addR R i v S').S = S' := rfl
theorem addR_len (R : RS) (i v S' : Nat) : (addR R i v S').len = if R.group i + 2 = R.len then R.len + 1 else R.len := rfl

/-! ### The start -/
/-- The order that 'newRarity' lays out of a permutation p. -/
def newR (n : Nat) (p q : Nat → Nat) (S : Nat) : RS := { n := n, len := 3, order := p, pos := q, group := fun _ => 1, start := fun h => if h = 2 then n else 0, S := S }

theorem newR_inv {n : Nat} {p q : Nat → Nat} {S : Nat} (h1 : ∀ i, i < n → q i < n ∧ p (q i) = i) (h2 : ∀ x, x < n → p x < n ∧ q (p x) = x) : Inv (newR n p q S) := by
  refine ⟨h1, h2, fun i _ => ⟨Nat.le_refl _, Nat.le_refl _⟩, Nat.le_refl _, .inl rfl, fun h hh => ?_, fun i hi => ?_⟩
  · show (if h = 2 then n else 0) = cnt (fun _ => 1) n h
    have hh' : h < 3 := hh
    by_cases e : h = 2
    · rw [if_pos e, cnt_all _ _ _ (fun i _ => by omega)]
    · rw [if_neg e, cnt_none _ _ _ (fun i _ => by omega)]
  · show (if 1 = 2 then n else 0) ≤ q i ∧ q i < (if 1 + 1 = 2 then n else 0)
    simp
    exact (h1 i hi).1

/-- p is a permutation of the places below n, q its inverse. -/
def Bij (n : Nat) (p q : Nat → Nat) : Prop := (∀ i, i < n → q i < n ∧ p (q i) = i) ∧ (∀ x, x < n → p x < n ∧ q (p x) = x)
theorem Bij.refl (n : Nat) : Bij n (fun i => i) (fun i => i) := ⟨fun _ h => ⟨h, rfl⟩, fun _ h => ⟨h, rfl⟩⟩
theorem Bij.swap {n : Nat} {p q : Nat → Nat} (h : Bij n p q) {x y : Nat} (hx : x < n) (hy : y < n) : ∃ q', Bij n (swp p x y) q' := by
  have I := swapR_inv (newR_inv (S := 0) h.1 h.2) (x := x) (y := y) hx hy rfl
  exact ⟨_, I.posOrd, I.ordPos⟩
end Go.Proofs.Qxb6616210a
