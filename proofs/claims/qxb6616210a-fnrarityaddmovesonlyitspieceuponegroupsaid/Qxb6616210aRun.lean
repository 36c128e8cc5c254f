/-
  WHAT THE SECOND LAW OF THE RARITY NEEDS: zzBytes (16), zzCopyInts (17), the state at the head of a round of its adds.
-/
import Derived.Test.Qxb6616210aLaws
import Derived.Test.Qxb6616210aMoves
namespace Go.Proofs.Qxb6616210a
open Go.RowKit Go.Lib

set_option maxHeartbeats 1000000 in
theorem bytes2_any (n s1 s2 i : Int) (a : Option Addr) (len cap : Nat) (hl : len ≤ 9223372036854775807) (w : World) :
    Calls Try.prog 16 #[.int .i64 n, .int .u64 s1, .int .u64 s2, .slice a len cap, .int .i64 i] w fun e w' => e = .returned (.bool (decide (len ≤ 1048576))) ∧ w' = w := by
  by_cases h : len ≤ 1048576
  · go_enter Try.func16, Try.ntmps16
    go_wp2_with fail
    go_ret
    exact ⟨by simp [h], rfl⟩
  · go_enter Try.func16, Try.ntmps16
    go_wp2_with fail
    go_ret
    exact ⟨by simp [h], rfl⟩

/-- What 'zzCopyInts' leaves: a new row with the same numbers. -/
def CopyPost (w : World) (n : Nat) (f : Nat → Nat) (e : Ending) (w' : World) : Prop :=
  e = .returned (.slice (some ⟨w.heap.size, 0, none⟩) n n) ∧ Below w.heap.size w w' ∧ RowAt w' w.heap.size n f
set_option maxRecDepth 100000 in
set_option maxHeartbeats 1000000 in
theorem copy_any (b n cap : Nat) (f : Nat → Nat) (hn : n ≤ 1048576) (w : World) (hb : b < w.heap.size) (hc : ∀ i, i < n → w.cell? ⟨b, i, none⟩ = some (.int .i64 (f i : Nat))) :
    Calls Try.prog 17 #[.slice (some ⟨b, 0, none⟩) n cap] w (CopyPost w n f) := by
  have hmk := make_ints n (by omega)
  have Hc := hide hc
  have h0 : RowAt (w.alloc (.cells (row n fun _ => 0) 3)) w.heap.size n (fun _ => 0) := heap_at w _ _ rfl
  have b0 : Below w.heap.size w (w.alloc (.cells (row n fun _ => 0) 3)) := (Below.refl _ _).alloc (Nat.le_refl _) _
  have H0 := hide h0
  have B0 := hide b0
  clear hc h0 b0
  go_enter Try.func17, Try.ntmps17
  go_wp2_with fail
  clear hmk
  go_loopw [4] (fun j wr => ∃ k : Nat, k ≤ n ∧ j = .int .i64 k ∧ Hid (Below w.heap.size w wr) ∧ ∃ g, Hid (RowAt wr w.heap.size n g) ∧ Hid (∀ i, i < k → g i = f i)) (fun j _ => n - (intOf j).toNat)
  case atStart => exact ⟨0, Nat.zero_le _, rfl, unhide B0, _, unhide H0, fun i hi => by omega⟩
  case round =>
    clear H0 B0
    obtain ⟨k, hk, rfl, HB, g, HR, HE⟩ := hrel
    by_cases hlt : k < n
    · have c1 := unhide Hc k hlt
      rw [← (unhide HB).cell (p := ⟨b, k, none⟩) hb] at c1
      have c2 := (unhide HR).cell hlt
      have c3 := (unhide HR).free k
      have hk' : (k : Int) < (n : Int) := by omega
      go_wp2_with fail
      go_roundw
      case rel =>
        refine ⟨k + 1, by omega, by go_num, (unhide HB).setCell (Nat.le_refl _) _, _, (unhide HR).set k (f k), fun i hi => ?_⟩
        by_cases e : i = k
        · rw [e, upd_same]
        · rw [upd_ne _ _ e]
          exact unhide HE i (by omega)
      case measure => simp [intOf]; omega
    · go_wp2_with fail
      go_ret
      exact ⟨rfl, unhide HB, (unhide HR).congr (fun i hi => unhide HE i (by omega))⟩

/-- How often piece j stands among the first k of the script. -/
def occ (z : Nat → Int) (j : Nat) : Nat → Nat
  | 0 => 0
  | k + 1 => occ z j k + if z k = (j : Int) then 1 else 0
theorem occ_le (z : Nat → Int) (j : Nat) : ∀ k, occ z j k ≤ k
  | 0 => Nat.le_refl _
  | k + 1 => by
    have := occ_le z j k
    simp only [occ]
    split <;> omega

/-- What holds at the head of each round of the second law's adds. -/
structure RunAt (w : World) (z : Nat → Int) (n br bR bp bo bq bg k : Nat) (W : World) (bs cap : Nat) (R : RS) : Prop where
  rar : RarAt W br bR bp bo bq bg bs cap R
  inv : Inv R
  rn : R.n = n
  len : R.len ≤ k + 3
  grp : ∀ j, j < n → R.group j = occ z j k + 1
  old : w.heap.size ≤ br ∧ w.heap.size ≤ bp ∧ w.heap.size ≤ bo ∧ w.heap.size ≤ bq ∧ w.heap.size ≤ bg ∧ w.heap.size ≤ bs
  bel : Below w.heap.size w W
def RunSt (w : World) (z : Nat → Int) (n br bR bp bo bq bg k : Nat) (W : World) : Prop := ∃ bs cap R, RunAt w z n br bR bp bo bq bg k W bs cap R

/-- Behind an 'add' of the script's piece k. -/
theorem RunAt.added {w : World} {z : Nat → Int} {n br bR bp bo bq bg k : Nat} {W : World} {bs cap : Nat} {R : RS} (h : RunAt w z n br bR bp bo bq bg k W bs cap R) {m : Nat} (hz : z k = (m : Int)) (hm : m < n) {W2 : World} {v S' bs' cap' : Nat}
    (hR : Pcg.Rolls R.S (room R m R.S) v S') (hr : RarAt W2 br bR bp bo bq bg bs' cap' (addR R m v S')) (hbs : bs' = bs ∨ W.heap.size ≤ bs') (hK : Kept (fun k => k = br ∨ k = bp ∨ k = bo ∨ k = bq ∨ k = bg ∨ k = bs) W W2) :
    RunAt w z n br bR bp bo bq bg (k + 1) W2 bs' cap' (addR R m v S') := by
  obtain ⟨o1, o2, o3, o4, o5, o6⟩ := h.old
  have hmR : m < R.n := by rw [h.rn]; exact hm
  have hb2 : Below w.heap.size w W2 := h.bel.trans (hK.below _ h.bel.size (fun i hi hF => by rcases hF with e | e | e | e | e | e <;> omega))
  have hv := hR.lt (room_pos h.inv hmR R.S).1
  refine ⟨hr, addR_inv h.inv hmR hv, h.rn, ?_, fun j hj => ?_, ⟨o1, o2, o3, o4, o5, ?_⟩, hb2⟩
  · rw [addR_len]
    have := h.len
    split <;> omega
  · rw [addR_group]
    simp only [occ]
    by_cases e : j = m
    · rw [e, upd_same, h.grp m hm, if_pos hz]
    · rw [upd_ne _ _ e, h.grp j hj, if_neg (fun h' => e (by omega))]
  · rcases hbs with e | e
    · rw [e]; exact o6
    · have := h.bel.size; omega

/-- The start: nothing is counted. -/
theorem RunAt.start {w : World} (z : Nat → Int) {n br bR bp bo bq bg bs : Nat} {w1 : World} {p' q : Nat → Nat} {S' : Nat} (hb : Bij n p' q) (hr : RarAt w1 br bR bp bo bq bg bs 3 (newR n p' q S')) (hbel : Below w.heap.size w w1)
    (l2 : w.heap.size ≤ bp) (l3 : w.heap.size ≤ br) (l4 : w.heap.size ≤ bo) (l5 : w.heap.size ≤ bq) (l6 : w.heap.size ≤ bg) (l7 : w.heap.size ≤ bs) :
    RunAt w z n br bR bp bo bq bg 0 w1 bs 3 (newR n p' q S') :=
  ⟨hr, newR_inv hb.1 hb.2, rfl, Nat.le_refl _, fun _ _ => rfl, ⟨l3, l2, l4, l5, l6, l7⟩, hbel⟩

theorem RarAt.below {w W : World} {br bR bp bo bq bg bs cap : Nat} {R : RS} (h : RarAt w br bR bp bo bq bg bs cap R) (hb : Below w.heap.size w W) : RarAt W br bR bp bo bq bg bs cap R := by
  have a1 := lt_of_some h.obj
  have a2 := lt_of_some h.pcg
  have a7 := lt_of_some h.rnd
  have a3 := h.order.lt
  have a4 := h.pos.lt
  have a5 := h.group.lt
  have a6 := h.start.lt
  exact h.keep (Kept.of_below hb) ⟨Nat.not_le.2 a1, Nat.not_le.2 a7, Nat.not_le.2 a2, Nat.not_le.2 a3, Nat.not_le.2 a4, Nat.not_le.2 a5, Nat.not_le.2 a6⟩
theorem RowAt.below {w W : World} {b n : Nat} {f : Nat → Nat} (h : RowAt w b n f) (hb : Below w.heap.size w W) : RowAt W b n f := h.keep (Kept.of_below hb) (Nat.not_le.2 h.lt)

/-- The four copies of what was, and the four fields as they are. -/
structure Snap (W : World) (co cp cg cs bo bq bg bs cap : Nat) (R T : RS) : Prop where
  oo : RowAt W co R.n R.order
  op : RowAt W cp R.n R.pos
  og : RowAt W cg R.n R.group
  os : RowAt W cs R.len R.start
  tor : RowAt W bo R.n T.order
  tp : RowAt W bq R.n T.pos
  tg : RowAt W bg R.n T.group
  ts : StartAt W bs T.len cap T.start
theorem Snap.mk' {W W5 : World} {co cp cg cs br bR bp bo bq bg bs bs5 cap5 H : Nat} {R : RS} {x v S' : Nat}
    (hH : br < H ∧ bp < H ∧ bo < H ∧ bq < H ∧ bg < H ∧ bs < H ∧ H ≤ co ∧ H ≤ cp ∧ H ≤ cg ∧ H ≤ cs) (o1 : RowAt W co R.n R.order) (o2 : RowAt W cp R.n R.pos) (o3 : RowAt W cg R.n R.group) (o4 : RowAt W cs R.len R.start)
    (h5 : RarAt W5 br bR bp bo bq bg bs5 cap5 (addR R x v S')) (hK : Kept (fun k => k = br ∨ k = bp ∨ k = bo ∨ k = bq ∨ k = bg ∨ k = bs) W W5) : Snap W5 co cp cg cs bo bq bg bs5 cap5 R (addR R x v S') := by
  obtain ⟨i1, i2, i3, i4, i5, i6, j1, j2, j3, j4⟩ := hH
  have no : ∀ c, H ≤ c → ¬ (c = br ∨ c = bp ∨ c = bo ∨ c = bq ∨ c = bg ∨ c = bs) := fun c hc h => by
    rcases h with e | e | e | e | e | e <;> omega
  exact ⟨o1.keep hK (no _ j1), o2.keep hK (no _ j2), o3.keep hK (no _ j3), o4.keep hK (no _ j4), h5.order, h5.pos, h5.group, h5.start⟩
end Go.Proofs.Qxb6616210a
