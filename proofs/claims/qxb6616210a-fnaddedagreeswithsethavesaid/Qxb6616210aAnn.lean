/-
  THE LAW FnSetHaveTrueOnlyOnFirstAnnouncement (5): its state.
-/
import Derived.Test.Qxb6616210aSide
import Derived.Test.Qxb6616210aLaws
namespace Go.Proofs.Qxb6616210a
open Go.RowKit Go.Lib
set_option maxRecDepth 100000 in
theorem bytes5_any (n s1 s2 m : Int) (a1 a2 : Option Addr) (len1 cap1 len2 cap2 : Nat) (hl1 : len1 ≤ 9223372036854775807) (hl2 : len2 ≤ 9223372036854775807) (w : World) :
    Calls Try.prog 18 #[.int .i64 n, .int .u64 s1, .int .u64 s2, .int .i64 m, .slice a1 len1 cap1, .slice a2 len2 cap2] w fun e w' => e = .returned (.bool (decide (len1 + len2 ≤ 1048576))) ∧ w' = w := by
  by_cases h : len1 ≤ 1048576
  · by_cases h2 : len2 ≤ 1048576
    · by_cases h3 : len1 + len2 ≤ 1048576
      all_goals
        go_enter Try.func18, Try.ntmps18
        go_wp2_with fail
        go_ret
        exact ⟨by simp [h3], rfl⟩
    · have h3 : ¬ len1 + len2 ≤ 1048576 := by omega
      go_enter Try.func18, Try.ntmps18
      go_wp2_with fail
      go_ret
      exact ⟨by simp [h3], rfl⟩
  · have h3 : ¬ len1 + len2 ≤ 1048576 := by omega
    go_enter Try.func18, Try.ntmps18
    go_wp2_with fail
    go_ret
    exact ⟨by simp [h3], rfl⟩
/-- In the loop that makes the peers: x of them stand. -/
def Mk5 (w0 : World) (m n : Nat) (K : Blk) (bP : Nat) (R : RS) (x : Nat) (W : World) : Prop :=
  ∃ col g f, Side W col 100 m n x K bP g f R (fun _ _ => false) (fun _ => 0) ∧ (∀ k, k < w0.heap.size → col k = 0) ∧ Below w0.heap.size w0 W
theorem Kept.bel {w W : World} (h : Kept (fun _ => False) w W) : Below w.heap.size w W := h.below _ (Nat.le_refl _) (fun _ _ h => h)
theorem Mk5.start {w0 W : World} {m n S : Nat} {K : Blk} {p' q : Nat → Nat} (hm : m ≤ 16) (hp : PkAt W K n (newR n p' q S)) (hk : Kept (fun _ => False) w0 W) (l : w0.heap.size ≤ K.pk ∧ w0.heap.size ≤ K.hb ∧ w0.heap.size ≤ K.br ∧ w0.heap.size ≤ K.bR ∧ w0.heap.size ≤ K.bp ∧ w0.heap.size ≤ K.bo ∧ w0.heap.size ≤ K.bq ∧ w0.heap.size ≤ K.bg ∧ w0.heap.size ≤ K.bs) :
    Mk5 w0 m n K W.heap.size (newR n p' q S) 0 (W.alloc (.cells (ptrs m fun _ => none) 36)) := by
  have kA : Kept (fun _ => False) W (W.alloc (.cells (ptrs m fun _ => none) 36)) := (Kept.refl _ _).alloc _
  have hp' := hp.keepN kA
  obtain ⟨a1, a2, a3, a4, a5, a6, a7, a8, a9⟩ := hp.lt
  obtain ⟨l1, l2, l3, l4, l5, l6, l7, l8, l9⟩ := l
  have hc : ∀ k, w0.heap.size ≤ k → k < W.heap.size → recol (recol (fun _ => 0) w0.heap.size 100) W.heap.size 101 k = 100 := fun k h1 h2 => by rw [recol_lt h2, recol_ge h1]
  refine ⟨recol (recol (fun _ => 0) w0.heap.size 100) W.heap.size 101, _, ⟨id, id, id, id⟩, Side.start hp' hm ⟨hc _ l1 a1, hc _ l2 a2, hc _ l3 a3, hc _ l4 a4, hc _ l5 a5, hc _ l6 a6, hc _ l7 a7, hc _ l8 a8, hc _ l9 a9⟩ (heap_at _ _ _ rfl) (recol_ge (Nat.le_refl _)), fun k hk2 => ?_, ?_⟩
  · have := hk.size
    rw [recol_lt (by omega), recol_lt hk2]
  · exact (hk.trans kA (fun _ _ h => h)).bel
theorem Mk5.more {w0 W W' : World} {m n : Nat} {K : Blk} {bP : Nat} {R : RS} {x : Nat} (h : Mk5 w0 m n K bP R x W) (hx : x < m) {b bb bfu mb : Nat} (hk : Kept (fun _ => False) W W') (hP : PeerAt W' b bb bfu mb n (fun _ => false) 0 0) (l1 : W.heap.size ≤ b) (l2 : W.heap.size ≤ bb) (l3 : W.heap.size ≤ bfu) (l4 : W.heap.size ≤ mb) :
    Mk5 w0 m n K bP R (x + 1) (W'.setCell ⟨bP, x, none⟩ (.pointer (some ⟨b, 0, none⟩))) := by
  obtain ⟨col, g, f, hS, ho, hb⟩ := h
  have hs := hb.size
  refine ⟨_, _, _, hS.more hx rfl hk hP l1 l2 l3 l4, fun k hk2 => ?_, ?_⟩
  · rw [recol_lt (by omega), ho k hk2]
  · refine (hb.trans (hk.below _ hs (fun _ _ h => h))).setCell ?_ _
    refine Nat.le_of_not_lt fun e => ?_
    have := ho _ e
    have := hS.pc
    simp only at *
    omega

/-- At the head of a round. -/
structure L5 (w0 W : World) (n m i : Nat) (K : Blk) (bP bS bD bC : Nat) (col : Nat → Nat) (g : Nat → Option Addr) (f : Fam) (R : RS) (H : Nat → Nat → Bool) (dist : Nat → Nat) (seen : Nat → Bool) (count : Nat → Nat) : Prop where
  side : Side W col 100 m n m K bP g f R H dist
  sr : BRowAt W bS (m * n) seen
  dr : RowAt W bD m dist
  cr : RowAt W bC n count
  rc : col bS = 1 ∧ col bD = 2 ∧ col bC = 3
  has : ∀ x, x < m → ∀ p, p < n → seen (x * n + p) = H x p
  grp : ∀ j, j < n → R.group j = count j + 1
  len : R.len ≤ i + 3
  dle : ∀ x, x < m → dist x ≤ i
  cle : ∀ j, j < n → count j ≤ i
  old : ∀ k, k < w0.heap.size → col k = 0
  bel : Below w0.heap.size w0 W
theorem BRowAt.lt {w : World} {b n : Nat} {f : Nat → Bool} (h : BRowAt w b n f) : b < w.heap.size := lt_of_some h
theorem L5.same {w0 W W' : World} {n m i : Nat} {K : Blk} {bP bS bD bC : Nat} {col : Nat → Nat} {g : Nat → Option Addr} {f : Fam} {R : RS} {H : Nat → Nat → Bool} {dist : Nat → Nat} {seen : Nat → Bool} {count : Nat → Nat}
    (h : L5 w0 W n m i K bP bS bD bC col g f R H dist seen count) (hk : Kept (fun _ => False) W W') {j : Nat} (hj : i ≤ j) : L5 w0 W' n m j K bP bS bD bC col g f R H dist seen count :=
  ⟨h.side.keep hk (fun _ e => e.elim), h.sr.keep hk id, h.dr.keep hk id, h.cr.keep hk id, h.rc, h.has, h.grp, by have := h.len; omega, fun x hx => by have := h.dle x hx; omega, fun x hx => by have := h.cle x hx; omega, h.old, h.bel.trans (hk.below _ h.bel.size (fun _ _ h => h))⟩
theorem idx_inj {n x y p q : Nat} (hp : p < n) (hq : q < n) (h : x * n + p = y * n + q) : x = y ∧ p = q := by
  have e1 : (x * n + p) / n = x := by rw [Nat.mul_comm, Nat.mul_add_div (by omega), Nat.div_eq_of_lt hp]; rfl
  have e2 : (y * n + q) / n = y := by rw [Nat.mul_comm, Nat.mul_add_div (by omega), Nat.div_eq_of_lt hq]; rfl
  have e3 : x = y := by rw [← e1, ← e2, h]
  subst e3
  exact ⟨rfl, by omega⟩
theorem idx_lt {n m x p : Nat} (hx : x < m) (hp : p < n) : x * n + p < m * n := by
  have : (x + 1) * n ≤ m * n := Nat.mul_le_mul_right n hx
  rw [Nat.add_mul] at this
  omega
theorem has_set {n m : Nat} {H : Nat → Nat → Bool} {seen : Nat → Bool} (h : ∀ x, x < m → ∀ p, p < n → seen (x * n + p) = H x p) {x p : Nat} (hp : p < n) :
    ∀ y, y < m → ∀ q, q < n → bupd seen (x * n + p) true (y * n + q) = hset H x p y q := fun y hy q hq => by
  by_cases e : y * n + q = x * n + p
  · obtain ⟨rfl, rfl⟩ := idx_inj hq hp e
    simp [hset, bupd]
  · rw [bupd_ne _ _ e, h y hy q hq]
    unfold hset
    by_cases e2 : y = x
    · subst e2
      have e3 : q ≠ p := fun e3 => e (by rw [e3])
      simp [bupd, e3]
    · simp [e2]
theorem L5.fresh {w0 W W' : World} {n m i : Nat} {K : Blk} {bP bS bD bC : Nat} {col : Nat → Nat} {g : Nat → Option Addr} {f : Fam} {R : RS} {H : Nat → Nat → Bool} {dist : Nat → Nat} {seen : Nat → Bool} {count : Nat → Nat}
    (h : L5 w0 W n m i K bP bS bD bC col g f R H dist seen count) {x p : Nat} (hx : x < m) (hp : p < n) (hA : AddedPost K (f.b x) (f.bb x) (f.bfu x) (f.mb x) n R (bupd (H x) p true) (dist x + 1) (dist x) p W W') :
    (BRowAt W' bS (m * n) seen ∧ RowAt W' bD m dist ∧ RowAt W' bC n count) ∧ ∃ K' col' R', K'.pk = K.pk ∧ L5 w0 (((W'.setCell ⟨bS, x * n + p, none⟩ (.bool true)).setCell ⟨bD, x, none⟩ (.int .i64 ((dist x + 1 : Nat) : Int))).setCell ⟨bC, p, none⟩ (.int .i64 ((count p + 1 : Nat) : Int))) n m (i + 1) K' bP bS bD bC col' g f R' (hset H x p) (upd dist x (dist x + 1)) (bupd seen (x * n + p) true) (upd count p (count p + 1)) := by
  obtain ⟨v, S', K', hK', hR, hS, hk⟩ := h.side.added hx hA
  obtain ⟨c1, c2, c3⟩ := h.rc
  have sr := h.sr.keep hk (fun e => by omega)
  have dr := h.dr.keep hk (fun e => by omega)
  have cr := h.cr.keep hk (fun e => by omega)
  have d1 := (recol_lt (c := 100) h.sr.lt).trans c1
  have d2 := (recol_lt (c := 100) h.dr.lt).trans c2
  have d3 := (recol_lt (c := 100) h.cr.lt).trans c3
  have nSD : bS ≠ bD := fun e => by rw [e] at d1; omega
  have nSC : bS ≠ bC := fun e => by rw [e] at d1; omega
  have nDC : bD ≠ bC := fun e => by rw [e] at d2; omega
  have hs := h.bel.size
  have old' : ∀ k, k < w0.heap.size → recol col W.heap.size 100 k = 0 := fun k hk2 => by rw [recol_lt (by omega), h.old k hk2]
  have ge : ∀ b c, recol col W.heap.size 100 b = c → 0 < c → w0.heap.size ≤ b := fun b c e hc => Nat.le_of_not_lt fun e2 => by have := old' b e2; omega
  have kS := Kept.cell1 (w := W') ⟨bS, x * n + p, none⟩ (.bool true)
  have kD := Kept.cell1 (w := W'.setCell ⟨bS, x * n + p, none⟩ (.bool true)) ⟨bD, x, none⟩ (.int .i64 ((dist x + 1 : Nat) : Int))
  have kC := Kept.cell1 (w := (W'.setCell ⟨bS, x * n + p, none⟩ (.bool true)).setCell ⟨bD, x, none⟩ (.int .i64 ((dist x + 1 : Nat) : Int))) ⟨bC, p, none⟩ (.int .i64 ((count p + 1 : Nat) : Int))
  have hpR : p < R.n := by rw [h.side.pk.rn]; exact hp
  have hbel : Below w0.heap.size w0 W' := h.bel.trans (hk.below _ hs (fun k hk2 e => by have := h.old k hk2; omega))
  refine ⟨⟨sr, dr, cr⟩, K', recol col W.heap.size 100, addR R p v S', hK', ⟨?_, ?_, ?_, ?_, ⟨d1, d2, d3⟩, has_set h.has hp, fun j hj => ?_, ?_, fun y hy => ?_, fun j hj => ?_, old', ?_⟩⟩
  · refine ((hS.keep kS (fun k e => ?_)).keep kD (fun k e => ?_)).keep kC (fun k e => ?_)
    · have e : k = bS := e
      rw [e, d1]; omega
    · have e : k = bD := e
      rw [e, d2]; omega
    · have e : k = bC := e
      rw [e, d3]; omega
  · exact ((sr.set _ _).keep kD nSD).keep kC nSC
  · exact ((dr.keep kS nSD.symm).set _ _).keep kC nDC
  · exact ((cr.keep kS nSC.symm).keep kD nDC.symm).set _ _
  · rw [addR_group]
    by_cases e : j = p
    · rw [e, upd_same, upd_same, h.grp p hp]
    · rw [upd_ne _ _ e, upd_ne _ _ e, h.grp j hj]
  · rw [addR_len]
    have := h.len
    split <;> omega
  · have := h.dle y hy
    have := h.dle x hx
    unfold upd
    split <;> omega
  · have := h.cle j hj
    have := h.cle p hp
    unfold upd
    split <;> omega
  · exact ((hbel.setCell (ge _ _ d1 (by omega)) _).setCell (ge _ _ d2 (by omega)) _).setCell (ge _ _ d3 (by omega)) _
/-- The start of the rounds. -/
theorem Mk5.rounds {w0 W : World} {m n S : Nat} {K : Blk} {bP : Nat} {p' q : Nat → Nat} (h : Mk5 w0 m n K bP (newR n p' q S) m W) :
    ∃ col g f, L5 w0 (((W.alloc (.cells (brow (m * n) fun _ => false) 4)).alloc (.cells (row m fun _ => 0) 3)).alloc (.cells (row n fun _ => 0) 3)) n m 0 K bP W.heap.size (W.heap.size + 1) (W.heap.size + 1 + 1) col g f (newR n p' q S) (fun _ _ => false) (fun _ => 0) (fun _ => false) (fun _ => 0) := by
  obtain ⟨col, g, f, hS, ho, hb⟩ := h
  have kA : Kept (fun _ => False) W (((W.alloc (.cells (brow (m * n) fun _ => false) 4)).alloc (.cells (row m fun _ => 0) 3)).alloc (.cells (row n fun _ => 0) 3)) := (((Kept.refl _ _).alloc _).alloc _).alloc _
  have hs := hb.size
  refine ⟨fun k => if k < W.heap.size then col k else k - W.heap.size + 1, g, f, ⟨(hS.recol (fun k hk => by simp [hk])).keep kA (fun _ e => e.elim), ?_, ?_, ?_, ⟨by simp, by rw [if_neg (by omega)]; omega, by rw [if_neg (by omega)]; omega⟩, fun _ _ _ _ => rfl, fun _ _ => rfl, Nat.le_refl _, fun _ _ => Nat.le_refl _, fun _ _ => Nat.le_refl _, fun k hk => ?_, hb.trans (kA.below _ hs (fun _ _ h => h))⟩⟩
  · exact heap_step (heap_step (heap_at _ _ _ rfl) (by simp)) (by simp; omega)
  · exact heap_step (heap_at _ _ _ (by simp)) (by simp)
  · exact heap_at _ _ _ (by simp)
  · rw [if_pos (by omega), ho k hk]
end Go.Proofs.Qxb6616210a
