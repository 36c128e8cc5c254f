/-
  THE LAW FnAddedAgreesWithSetHave (7): its state: two pickers, each with its peers, in equal states.
-/
import Derived.Test.Qxb6616210aAnn
namespace Go.Proofs.Qxb6616210a
open Go.RowKit Go.Lib
set_option maxRecDepth 100000 in
theorem bytes7_any (n s1 s2 m : Int) (a1 a2 : Option Addr) (len1 cap1 len2 cap2 : Nat) (hl1 : len1 ≤ 9223372036854775807) (hl2 : len2 ≤ 9223372036854775807) (w : World) :
    Calls Try.prog 29 #[.int .i64 n, .int .u64 s1, .int .u64 s2, .int .i64 m, .slice a1 len1 cap1, .slice a2 len2 cap2] w fun e w' => e = .returned (.bool (decide (len1 + len2 ≤ 1048576))) ∧ w' = w := by
  by_cases h : len1 ≤ 1048576
  · by_cases h2 : len2 ≤ 1048576
    · by_cases h3 : len1 + len2 ≤ 1048576
      all_goals
        go_enter Try.func29, Try.ntmps29
        go_wp2_with fail
        go_ret
        exact ⟨by simp [h3], rfl⟩
    · have h3 : ¬ len1 + len2 ≤ 1048576 := by omega
      go_enter Try.func29, Try.ntmps29
      go_wp2_with fail
      go_ret
      exact ⟨by simp [h3], rfl⟩
  · have h3 : ¬ len1 + len2 ≤ 1048576 := by omega
    go_enter Try.func29, Try.ntmps29
    go_wp2_with fail
    go_ret
    exact ⟨by simp [h3], rfl⟩
set_option maxRecDepth 100000 in
set_option maxHeartbeats 1000000 in
/-- zzSameInts (30) of two rows that hold the same numbers. -/
theorem sameInts_any (b1 b2 n cap1 cap2 : Nat) (hn : n ≤ 4611686018427387904) (f : Nat → Nat) (w : World) (h1 : ∀ i, i < n → w.cell? ⟨b1, i, none⟩ = some (.int .i64 (f i : Nat))) (h2 : ∀ i, i < n → w.cell? ⟨b2, i, none⟩ = some (.int .i64 (f i : Nat))) :
    Calls Try.prog 30 #[.slice (some ⟨b1, 0, none⟩) n cap1, .slice (some ⟨b2, 0, none⟩) n cap2] w fun e w' => e = .returned (.bool true) ∧ Kept (fun _ => False) w w' := by
  have H1 := hide h1
  have H2 := hide h2
  have nn : ((n : Int) != (n : Int)) = false := by simp
  clear h1 h2
  go_enter Try.func30, Try.ntmps30
  go_wp2_with fail
  clear nn
  go_loopw [5] (fun j wr => ∃ k : Nat, k ≤ n ∧ j = .int .i64 k ∧ Hid (Kept (fun _ => False) w wr)) (fun j _ => n - (intOf j).toNat)
  case atStart => exact ⟨0, Nat.zero_le _, rfl, Kept.refl _ _⟩
  case round =>
    obtain ⟨k, hk, rfl, HK⟩ := hrel
    by_cases hlt : k < n
    · have c1 := (unhide HK).cellN (unhide H1 k hlt)
      have c2 := (unhide HK).cellN (unhide H2 k hlt)
      have hk' : (k : Int) < (n : Int) := by omega
      have ne : ((f k : Int) != (f k : Int)) = false := by simp
      go_wp2_with fail
      go_quiet (fail)
      go_wp2_with fail
      go_roundw
      case rel => exact ⟨k + 1, by omega, by go_num, (unhide HK).drewN _⟩
      case measure => simp [intOf]; omega
    · go_wp2_with fail
      go_ret
      exact ⟨rfl, unhide HK⟩
section
variable {W W' : World} {col : Nat → Nat} {c0 m n x : Nat} {K : Blk} {bP : Nat} {g : Nat → Option Addr} {f : Fam} {R : RS} {H : Nat → Nat → Bool} {dist : Nat → Nat}
/-- A side stands while the other side gets a peer more. -/
theorem Side.other (h : Side W col c0 m n x K bP g f R H dist) {s c b : Nat} (hs : s = W.heap.size) (hk : Kept (fun _ => False) W W') {q y : Nat} (hc : col q < c0 ∨ c0 + 100 ≤ col q) (hq : q < W.heap.size) :
    Side (W'.setCell ⟨q, y, none⟩ (.pointer (some ⟨b, 0, none⟩))) (Go.Proofs.Qxb6616210a.recol col s c) c0 m n x K bP g f R H dist := by
  subst hs
  refine ((h.recol (col' := Go.Proofs.Qxb6616210a.recol col W.heap.size c) (fun k hk => recol_lt hk)).keep hk (fun k e => e.elim)).keep (Kept.cell1 (w := W') ⟨q, y, none⟩ _) (fun k e => ?_)
  have e : k = q := e
  rw [e, recol_lt hq]
  exact hc
end
/-- In the loop that makes the peers: xa of the first picker's, xb of the second's. -/
def Mk7 (w0 : World) (m n : Nat) (KA KB : Blk) (bA bB : Nat) (R : RS) (xa xb : Nat) (W : World) : Prop :=
  ∃ col gA fA gB fB, Side W col 100 m n xa KA bA gA fA R (fun _ _ => false) (fun _ => 0) ∧ Side W col 200 m n xb KB bB gB fB R (fun _ _ => false) (fun _ => 0) ∧ (∀ k, k < w0.heap.size → col k = 0) ∧ Below w0.heap.size w0 W
section
variable {w0 W W' : World} {m n : Nat} {KA KB : Blk} {bA bB : Nat} {R : RS} {xa xb : Nat} {b bb bfu mb : Nat}
theorem Mk7.cellA (h : Mk7 w0 m n KA KB bA bB R xa xb W) (hk : Kept (fun _ => False) W W') {i : Nat} (hx : i < m) : ∃ v, W'.cell? ⟨bA, i, none⟩ = some v ∧ W'.frozen? ⟨bA, i, none⟩ = false := by
  obtain ⟨col, gA, fA, gB, fB, hA, hB, _⟩ := h
  have hP := hA.prow.keep hk id
  exact ⟨_, hP.cell hx, hP.free i⟩
theorem Mk7.cellB (h : Mk7 w0 m n KA KB bA bB R xa xb W) (hk : Kept (fun _ => False) W W') {i : Nat} (hx : i < m) : ∃ v, W'.cell? ⟨bB, i, none⟩ = some v ∧ W'.frozen? ⟨bB, i, none⟩ = false := by
  obtain ⟨col, gA, fA, gB, fB, hA, hB, _⟩ := h
  have hP := hB.prow.keep hk id
  exact ⟨_, hP.cell hx, hP.free i⟩
theorem Mk7.moreA (h : Mk7 w0 m n KA KB bA bB R xa xb W) (hx : xa < m) (hk : Kept (fun _ => False) W W') (hP : PeerAt W' b bb bfu mb n (fun _ => false) 0 0) (l1 : W.heap.size ≤ b) (l2 : W.heap.size ≤ bb) (l3 : W.heap.size ≤ bfu) (l4 : W.heap.size ≤ mb) :
    Mk7 w0 m n KA KB bA bB R (xa + 1) xb (W'.setCell ⟨bA, xa, none⟩ (.pointer (some ⟨b, 0, none⟩))) := by
  obtain ⟨col, gA, fA, gB, fB, hA, hB, ho, hb⟩ := h
  have hs := hb.size
  have hpc := hA.pc
  refine ⟨_, _, _, _, _, hA.more hx rfl hk hP l1 l2 l3 l4, hB.other rfl hk (by omega) hA.prow.lt, fun k hk2 => ?_, ?_⟩
  · rw [recol_lt (by omega), ho k hk2]
  · refine (hb.trans (hk.below _ hs (fun _ _ h => h))).setCell ?_ _
    refine Nat.le_of_not_lt fun e => ?_
    have := ho _ e
    simp only at *
    omega
theorem Mk7.moreB (h : Mk7 w0 m n KA KB bA bB R xa xb W) (hx : xb < m) (hk : Kept (fun _ => False) W W') (hP : PeerAt W' b bb bfu mb n (fun _ => false) 0 0) (l1 : W.heap.size ≤ b) (l2 : W.heap.size ≤ bb) (l3 : W.heap.size ≤ bfu) (l4 : W.heap.size ≤ mb) :
    Mk7 w0 m n KA KB bA bB R xa (xb + 1) (W'.setCell ⟨bB, xb, none⟩ (.pointer (some ⟨b, 0, none⟩))) := by
  obtain ⟨col, gA, fA, gB, fB, hA, hB, ho, hb⟩ := h
  have hs := hb.size
  have hpc := hB.pc
  refine ⟨_, _, _, _, _, hA.other rfl hk (by omega) hB.prow.lt, hB.more hx rfl hk hP l1 l2 l3 l4, fun k hk2 => ?_, ?_⟩
  · rw [recol_lt (by omega), ho k hk2]
  · refine (hb.trans (hk.below _ hs (fun _ _ h => h))).setCell ?_ _
    refine Nat.le_of_not_lt fun e => ?_
    have := ho _ e
    simp only at *
    omega
end
theorem bij_one {n : Nat} {p q q' : Nat → Nat} (h : Bij n p q) (h' : Bij n p q') : ∀ i, i < n → q' i = q i := fun i hi => by
  have a := h.1 i hi
  have b := h'.2 (q i) a.1
  rw [a.2] at b
  exact b.2
theorem PkAt.swapQ {W : World} {K : Blk} {n S : Nat} {p q q' : Nat → Nat} (h : PkAt W K n (newR n p q' S)) (hb : Bij n p q) (hb' : Bij n p q') : PkAt W K n (newR n p q S) := by
  refine ⟨h.h0, h.h1, h.h2, h.h3, h.hr, h.bits, ?_, newR_inv hb.1 hb.2, rfl, h.apart⟩
  have r := h.rar
  exact ⟨r.obj, r.rnd, r.pcg, r.state, r.order, r.pos.congr (bij_one hb hb'), r.group, r.start, r.apart⟩
theorem Mk7.start {w0 W1 W2 : World} {m n S0 S1 S2 : Nat} {KA KB : Blk} {p1 q1 p2 q2 : Nat → Nat} (hm : m ≤ 16) (s1 : Shuf (n - 1) (fun i => i) S0 p1 S1) (s2 : Shuf (n - 1) (fun i => i) S0 p2 S2) (b1 : Bij n p1 q1) (b2 : Bij n p2 q2) (hA : PkAt W1 KA n (newR n p1 q1 S1)) (hk1 : Kept (fun _ => False) w0 W1) (l : w0.heap.size ≤ KA.pk ∧ w0.heap.size ≤ KA.hb ∧ w0.heap.size ≤ KA.br ∧ w0.heap.size ≤ KA.bR ∧ w0.heap.size ≤ KA.bp ∧ w0.heap.size ≤ KA.bo ∧ w0.heap.size ≤ KA.bq ∧ w0.heap.size ≤ KA.bg ∧ w0.heap.size ≤ KA.bs)
    (hB : PkAt W2 KB n (newR n p2 q2 S2)) (hk2 : Kept (fun _ => False) W1 W2) (l' : W1.heap.size ≤ KB.pk ∧ W1.heap.size ≤ KB.hb ∧ W1.heap.size ≤ KB.br ∧ W1.heap.size ≤ KB.bR ∧ W1.heap.size ≤ KB.bp ∧ W1.heap.size ≤ KB.bo ∧ W1.heap.size ≤ KB.bq ∧ W1.heap.size ≤ KB.bg ∧ W1.heap.size ≤ KB.bs) :
    Mk7 w0 m n KA KB W2.heap.size (W2.heap.size + 1) (newR n p1 q1 S1) 0 0 ((W2.alloc (.cells (ptrs m fun _ => none) 36)).alloc (.cells (ptrs m fun _ => none) 36)) := by
  obtain ⟨rfl, rfl⟩ := s1.one s2
  have hB := hB.swapQ b1 b2
  have kA : Kept (fun _ => False) W2 ((W2.alloc (.cells (ptrs m fun _ => none) 36)).alloc (.cells (ptrs m fun _ => none) 36)) := ((Kept.refl _ _).alloc _).alloc _
  have hA' := (hA.keepN hk2).keepN kA
  have hB' := hB.keepN kA
  obtain ⟨a1, a2, a3, a4, a5, a6, a7, a8, a9⟩ := hA.lt
  obtain ⟨l1, l2, l3, l4, l5, l6, l7, l8, l9⟩ := l
  obtain ⟨d1, d2, d3, d4, d5, d6, d7, d8, d9⟩ := hB.lt
  obtain ⟨m1, m2, m3, m4, m5, m6, m7, m8, m9⟩ := l'
  have z1 := hk1.size
  have z2 := hk2.size
  have hcol : ∃ col : Nat → Nat, col = recol (recol (recol (recol (fun _ => 0) w0.heap.size 100) W1.heap.size 200) W2.heap.size 101) (W2.heap.size + 1) 201 := ⟨_, rfl⟩
  obtain ⟨col, hcol⟩ := hcol
  have hc : ∀ k, w0.heap.size ≤ k → k < W1.heap.size → col k = 100 := fun k h1 h2 => by rw [hcol, recol_lt (by omega), recol_lt (by omega), recol_lt h2, recol_ge h1]
  have hc2 : ∀ k, W1.heap.size ≤ k → k < W2.heap.size → col k = 200 := fun k h1 h2 => by rw [hcol, recol_lt (by omega), recol_lt h2, recol_ge h1]
  have hc3 : col W2.heap.size = 101 := by rw [hcol, recol_lt (by omega), recol_ge (Nat.le_refl _)]
  have hc4 : col (W2.heap.size + 1) = 201 := by rw [hcol, recol_ge (Nat.le_refl _)]
  refine ⟨col, _, ⟨id, id, id, id⟩, _, ⟨id, id, id, id⟩, Side.start hA' hm ⟨hc _ l1 a1, hc _ l2 a2, hc _ l3 a3, hc _ l4 a4, hc _ l5 a5, hc _ l6 a6, hc _ l7 a7, hc _ l8 a8, hc _ l9 a9⟩ (heap_step (heap_at _ _ _ rfl) (by simp)) hc3,
    Side.start hB' hm ⟨hc2 _ m1 d1, hc2 _ m2 d2, hc2 _ m3 d3, hc2 _ m4 d4, hc2 _ m5 d5, hc2 _ m6 d6, hc2 _ m7 d7, hc2 _ m8 d8, hc2 _ m9 d9⟩ (heap_at _ _ _ (by simp)) hc4, fun k hk => ?_, ?_⟩
  · rw [hcol, recol_lt (by omega), recol_lt (by omega), recol_lt (by omega), recol_lt hk]
  · exact ((hk1.trans hk2 (fun _ _ h => h)).trans kA (fun _ _ h => h)).bel

/-- At the head of a round: the first picker's side as in law 5, the second's beside it. -/
structure L7 (w0 W : World) (n m i : Nat) (KA KB : Blk) (bA bB bS bD bC : Nat) (col : Nat → Nat) (gA gB : Nat → Option Addr) (fA fB : Fam) (R : RS) (H : Nat → Nat → Bool) (dist : Nat → Nat) (seen : Nat → Bool) (count : Nat → Nat) : Prop where
  one : L5 w0 W n m i KA bA bS bD bC col gA fA R H dist seen count
  two : Side W col 200 m n m KB bB gB fB R H dist
section
variable {w0 W W' : World} {n m i : Nat} {KA KB K : Blk} {bA bB bP bS bD bC : Nat} {col : Nat → Nat} {gA gB g : Nat → Option Addr} {fA fB f : Fam} {R : RS} {H : Nat → Nat → Bool} {dist : Nat → Nat} {seen : Nat → Bool} {count : Nat → Nat}
theorem L7.same (h : L7 w0 W n m i KA KB bA bB bS bD bC col gA gB fA fB R H dist seen count) (hk : Kept (fun _ => False) W W') {j : Nat} (hj : i ≤ j) : L7 w0 W' n m j KA KB bA bB bS bD bC col gA gB fA fB R H dist seen count :=
  ⟨h.one.same hk hj, h.two.keep hk (fun _ e => e.elim)⟩
/-- What law 5's round leaves, told in full. -/
theorem L5.fresh2 (h : L5 w0 W n m i K bP bS bD bC col g f R H dist seen count) {x p : Nat} (hx : x < m) (hp : p < n) (hA : AddedPost K (f.b x) (f.bb x) (f.bfu x) (f.mb x) n R (bupd (H x) p true) (dist x + 1) (dist x) p W W') :
    (BRowAt W' bS (m * n) seen ∧ RowAt W' bD m dist ∧ RowAt W' bC n count) ∧ ∃ K' v S', K'.pk = K.pk ∧ Pcg.Rolls R.S (room R p R.S) v S' ∧ Kept (fun k => 100 ≤ col k ∧ col k < 100 + 100) W W' ∧ L5 w0 (((W'.setCell ⟨bS, x * n + p, none⟩ (.bool true)).setCell ⟨bD, x, none⟩ (.int .i64 ((dist x + 1 : Nat) : Int))).setCell ⟨bC, p, none⟩ (.int .i64 ((count p + 1 : Nat) : Int))) n m (i + 1) K' bP bS bD bC (recol col W.heap.size 100) g f (addR R p v S') (hset H x p) (upd dist x (dist x + 1)) (bupd seen (x * n + p) true) (upd count p (count p + 1)) := by
  obtain ⟨v, S', K', hK', hR, hS, hk⟩ := h.side.added hx hA
  obtain ⟨c1, c2, c3⟩ := h.rc
  have sr := h.sr.keep hk (fun e => by omega)
  have dr := h.dr.keep hk (fun e => by omega)
  have cr := h.cr.keep hk (fun e => by omega)
  have d1 := (recol_lt (c := 100) h.sr.lt).trans c1
  have d2 := (recol_lt (c := 100) h.dr.lt).trans c2
  have d3 := (recol_lt (c := 100) h.cr.lt).trans c3
  have nSD : bS ≠ bD := fun e => by rw [e] at d1; omega
  have nSC : bS ≠ bC := fun e => by rw [e] at d1; omega
  have nDC : bD ≠ bC := fun e => by rw [e] at d2; omega
  have hs := h.bel.size
  have old' : ∀ k, k < w0.heap.size → recol col W.heap.size 100 k = 0 := fun k hk2 => by rw [recol_lt (by omega), h.old k hk2]
  have ge : ∀ b c, recol col W.heap.size 100 b = c → 0 < c → w0.heap.size ≤ b := fun b c e hc => Nat.le_of_not_lt fun e2 => by have := old' b e2; omega
  have kS := Kept.cell1 (w := W') ⟨bS, x * n + p, none⟩ (.bool true)
  have kD := Kept.cell1 (w := W'.setCell ⟨bS, x * n + p, none⟩ (.bool true)) ⟨bD, x, none⟩ (.int .i64 ((dist x + 1 : Nat) : Int))
  have kC := Kept.cell1 (w := (W'.setCell ⟨bS, x * n + p, none⟩ (.bool true)).setCell ⟨bD, x, none⟩ (.int .i64 ((dist x + 1 : Nat) : Int))) ⟨bC, p, none⟩ (.int .i64 ((count p + 1 : Nat) : Int))
  have hbel : Below w0.heap.size w0 W' := h.bel.trans (hk.below _ hs (fun k hk2 e => by have := h.old k hk2; omega))
  refine ⟨⟨sr, dr, cr⟩, K', v, S', hK', hR, hk, ⟨?_, ?_, ?_, ?_, ⟨d1, d2, d3⟩, has_set h.has hp, fun j hj => ?_, ?_, fun y hy => ?_, fun j hj => ?_, old', ?_⟩⟩
  · refine ((hS.keep kS (fun k e => ?_)).keep kD (fun k e => ?_)).keep kC (fun k e => ?_)
    · have e : k = bS := e
      rw [e, d1]; omega
    · have e : k = bD := e
      rw [e, d2]; omega
    · have e : k = bC := e
      rw [e, d3]; omega
  · exact ((sr.set _ _).keep kD nSD).keep kC nSC
  · exact ((dr.keep kS nSD.symm).set _ _).keep kC nDC
  · exact ((cr.keep kS nSC.symm).keep kD nDC.symm).set _ _
  · rw [addR_group]
    by_cases e : j = p
    · rw [e, upd_same, upd_same, h.grp p hp]
    · rw [upd_ne _ _ e, upd_ne _ _ e, h.grp j hj]
  · rw [addR_len]
    have := h.len
    split <;> omega
  · have := h.dle y hy
    have := h.dle x hx
    unfold upd
    split <;> omega
  · have := h.cle j hj
    have := h.cle p hp
    unfold upd
    split <;> omega
  · exact ((hbel.setCell (ge _ _ d1 (by omega)) _).setCell (ge _ _ d2 (by omega)) _).setCell (ge _ _ d3 (by omega)) _
/-- The first side and the rows stand while the second side works. -/
theorem L5.other (h : L5 w0 W n m i K bP bS bD bC col g f R H dist seen count) (hk : Kept (fun k => 200 ≤ col k ∧ col k < 200 + 100) W W') : L5 w0 W' n m i K bP bS bD bC (recol col W.heap.size 200) g f R H dist seen count := by
  obtain ⟨c1, c2, c3⟩ := h.rc
  have hs := h.bel.size
  refine ⟨(h.side.recol (fun k hk => recol_lt hk)).keep (hk.mono (G := fun k => 200 ≤ recol col W.heap.size 200 k) (fun k hk2 e => by rw [recol_lt hk2]; exact e.1)) (fun k e => by omega), h.sr.keep hk (fun e => by omega), h.dr.keep hk (fun e => by omega), h.cr.keep hk (fun e => by omega), ⟨?_, ?_, ?_⟩, h.has, h.grp, h.len, h.dle, h.cle, fun k hk2 => ?_, h.bel.trans (hk.below _ hs (fun k hk2 e => by have := h.old k hk2; omega))⟩
  · rw [recol_lt h.sr.lt, c1]
  · rw [recol_lt h.dr.lt, c2]
  · rw [recol_lt h.cr.lt, c3]
  · rw [recol_lt (by omega), h.old k hk2]
/-- The first half of a fresh round: the first picker, and the rows. -/
theorem L7.half (h : L7 w0 W n m i KA KB bA bB bS bD bC col gA gB fA fB R H dist seen count) {x p : Nat} (hx : x < m) (hp : p < n) (hA : AddedPost KA (fA.b x) (fA.bb x) (fA.bfu x) (fA.mb x) n R (bupd (H x) p true) (dist x + 1) (dist x) p W W') :
    (BRowAt W' bS (m * n) seen ∧ RowAt W' bD m dist ∧ RowAt W' bC n count) ∧ ∃ KA' v S' col', KA'.pk = KA.pk ∧ Pcg.Rolls R.S (room R p R.S) v S' ∧
      L5 w0 (((W'.setCell ⟨bS, x * n + p, none⟩ (.bool true)).setCell ⟨bD, x, none⟩ (.int .i64 ((dist x + 1 : Nat) : Int))).setCell ⟨bC, p, none⟩ (.int .i64 ((count p + 1 : Nat) : Int))) n m (i + 1) KA' bA bS bD bC col' gA fA (addR R p v S') (hset H x p) (upd dist x (dist x + 1)) (bupd seen (x * n + p) true) (upd count p (count p + 1)) ∧
      Side (((W'.setCell ⟨bS, x * n + p, none⟩ (.bool true)).setCell ⟨bD, x, none⟩ (.int .i64 ((dist x + 1 : Nat) : Int))).setCell ⟨bC, p, none⟩ (.int .i64 ((count p + 1 : Nat) : Int))) col' 200 m n m KB bB gB fB R H dist := by
  obtain ⟨hrows, KA', v, S', e1, hR, hk, hL⟩ := h.one.fresh2 hx hp hA
  refine ⟨hrows, KA', v, S', _, e1, hR, hL, ?_⟩
  obtain ⟨d1, d2, d3⟩ := hL.rc
  have kS := Kept.cell1 (w := W') ⟨bS, x * n + p, none⟩ (.bool true)
  have kD := Kept.cell1 (w := W'.setCell ⟨bS, x * n + p, none⟩ (.bool true)) ⟨bD, x, none⟩ (.int .i64 ((dist x + 1 : Nat) : Int))
  have kC := Kept.cell1 (w := (W'.setCell ⟨bS, x * n + p, none⟩ (.bool true)).setCell ⟨bD, x, none⟩ (.int .i64 ((dist x + 1 : Nat) : Int))) ⟨bC, p, none⟩ (.int .i64 ((count p + 1 : Nat) : Int))
  have hS := (h.two.recol (col' := recol col W.heap.size 100) (fun k hk => recol_lt hk)).keep (hk.mono (G := fun k => recol col W.heap.size 100 k < 200) (fun k hk2 e => by rw [recol_lt hk2]; omega)) (fun k e => by omega)
  refine ((hS.keep kS (fun k e => ?_)).keep kD (fun k e => ?_)).keep kC (fun k e => ?_)
  · have e : k = bS := e
    rw [e, d1]; omega
  · have e : k = bD := e
    rw [e, d2]; omega
  · have e : k = bC := e
    rw [e, d3]; omega
/-- The second half: the second picker comes to the same state. -/
theorem L7.whole {R' : RS} {H' : Nat → Nat → Bool} {dist' : Nat → Nat} {x p v S' : Nat} (h1 : L5 w0 W n m i KA bA bS bD bC col gA fA R' H' dist' seen count) (h2 : Side W col 200 m n m KB bB gB fB R H dist) (hR : Pcg.Rolls R.S (room R p R.S) v S') (e1 : R' = addR R p v S') (e2 : H' = hset H x p) (e3 : dist' = upd dist x (dist x + 1)) (hx : x < m)
    (hA : AddedPost KB (fB.b x) (fB.bb x) (fB.bfu x) (fB.mb x) n R (bupd (H x) p true) (dist x + 1) (dist x) p W W') : ∃ KB' col', KB'.pk = KB.pk ∧ L7 w0 W' n m i KA KB' bA bB bS bD bC col' gA gB fA fB R' H' dist' seen count := by
  obtain ⟨v2, S2, KB', eK, hR2, hS, hk⟩ := h2.added hx hA
  obtain ⟨rfl, rfl⟩ := hR.one hR2
  subst e1 e2 e3
  exact ⟨KB', _, eK, h1.other hk, hS⟩
end
theorem Mk7.rounds {w0 W : World} {m n S : Nat} {KA KB : Blk} {bA bB : Nat} {p' q : Nat → Nat} (h : Mk7 w0 m n KA KB bA bB (newR n p' q S) m m W) :
    ∃ col gA gB fA fB, L7 w0 (((W.alloc (.cells (brow (m * n) fun _ => false) 4)).alloc (.cells (row m fun _ => 0) 3)).alloc (.cells (row n fun _ => 0) 3)) n m 0 KA KB bA bB W.heap.size (W.heap.size + 1) (W.heap.size + 1 + 1) col gA gB fA fB (newR n p' q S) (fun _ _ => false) (fun _ => 0) (fun _ => false) (fun _ => 0) := by
  obtain ⟨col, gA, fA, gB, fB, hA, hB, ho, hb⟩ := h
  have kA : Kept (fun _ => False) W (((W.alloc (.cells (brow (m * n) fun _ => false) 4)).alloc (.cells (row m fun _ => 0) 3)).alloc (.cells (row n fun _ => 0) 3)) := (((Kept.refl _ _).alloc _).alloc _).alloc _
  have hs := hb.size
  refine ⟨fun k => if k < W.heap.size then col k else k - W.heap.size + 1, gA, gB, fA, fB, ⟨⟨(hA.recol (fun k hk => by simp [hk])).keep kA (fun _ e => e.elim), ?_, ?_, ?_, ⟨by simp, by rw [if_neg (by omega)]; omega, by rw [if_neg (by omega)]; omega⟩, fun _ _ _ _ => rfl, fun _ _ => rfl, Nat.le_refl _, fun _ _ => Nat.le_refl _, fun _ _ => Nat.le_refl _, fun k hk => ?_, hb.trans (kA.below _ hs (fun _ _ h => h))⟩, (hB.recol (fun k hk => by simp [hk])).keep kA (fun _ e => e.elim)⟩⟩
  · exact heap_step (heap_step (heap_at _ _ _ rfl) (by simp)) (by simp; omega)
  · exact heap_step (heap_at _ _ _ (by simp)) (by simp)
  · exact heap_at _ _ _ (by simp)
  · rw [if_pos (by omega), ho k hk]
end Go.Proofs.Qxb6616210a
