/-
  WHAT BOTH LAWS OF THE RARITY SHARE: the elements that came in, the state at the head of a round.
-/
import Derived.Test.Qxb6616210aNew
import Derived.Test.Qxb6616210aMatch
namespace Go.Proofs.Qxb6616210a
open Go.RowKit Go.Lib

/-- The elements of a slice that came in: below its length the cells hold z. -/
def Elems (w : World) (a : Option Addr) (len : Nat) (z : Nat → Int) : Prop :=
  ∀ k, k < len → ∃ b off, a = some ⟨b, off, none⟩ ∧ b < w.heap.size ∧ w.cell? ⟨b, off + k, none⟩ = some (.int .i64 (z k))
theorem Elems.below {w W : World} {a : Option Addr} {len : Nat} {z : Nat → Int} (h : Elems w a len z) (hb : Below w.heap.size w W) {k : Nat} (hk : k < len) : ∃ b off, a = some ⟨b, off, none⟩ ∧ W.cell? ⟨b, off + k, none⟩ = some (.int .i64 (z k)) := by
  obtain ⟨b, off, e, hlt, hc⟩ := h k hk
  exact ⟨b, off, e, by rw [hb.cell (p := ⟨b, off + k, none⟩) hlt]; exact hc⟩

set_option maxHeartbeats 1000000 in
theorem bytes1_any (n s1 s2 : Int) (a : Option Addr) (len cap : Nat) (hl : len ≤ 9223372036854775807) (w : World) :
    Calls Try.prog 8 #[.int .i64 n, .int .u64 s1, .int .u64 s2, .slice a len cap] w fun e w' => e = .returned (.bool (decide (len ≤ 1048576))) ∧ w' = w := by
  by_cases h : len ≤ 1048576
  · go_enter Try.func8, Try.ntmps8
    go_wp2_with fail
    go_ret
    exact ⟨by simp [h], rfl⟩
  · go_enter Try.func8, Try.ntmps8
    go_wp2_with fail
    go_ret
    exact ⟨by simp [h], rfl⟩

/-- What holds at the head of each round of a law that adds to one rarity. -/
structure LawAt (w : World) (n br bR bp bo bq bg bc k : Nat) (W : World) (bs cap : Nat) (R : RS) (count : Nat → Nat) : Prop where
  rar : RarAt W br bR bp bo bq bg bs cap R
  inv : Inv R
  rn : R.n = n
  len : R.len ≤ k + 3
  cnt : RowAt W bc n count
  grp : ∀ j, j < n → R.group j = count j + 1
  cle : ∀ j, j < n → count j ≤ k
  far : bc ≠ br ∧ bc ≠ bp ∧ bc ≠ bo ∧ bc ≠ bq ∧ bc ≠ bg ∧ bc ≠ bs
  old : w.heap.size ≤ br ∧ w.heap.size ≤ bp ∧ w.heap.size ≤ bo ∧ w.heap.size ≤ bq ∧ w.heap.size ≤ bg ∧ w.heap.size ≤ bs ∧ w.heap.size ≤ bc
  bel : Below w.heap.size w W

def LawSt (w : World) (n br bR bp bo bq bg bc k : Nat) (W : World) : Prop := ∃ bs cap R count, LawAt w n br bR bp bo bq bg bc k W bs cap R count

theorem not6 {x a b c d e f : Nat} (h1 : x ≠ a) (h2 : x ≠ b) (h3 : x ≠ c) (h4 : x ≠ d) (h5 : x ≠ e) (h6 : x ≠ f) : ¬ (x = a ∨ x = b ∨ x = c ∨ x = d ∨ x = e ∨ x = f) := by
  rintro (h | h | h | h | h | h)
  · exact h1 h
  · exact h2 h
  · exact h3 h
  · exact h4 h
  · exact h5 h
  · exact h6 h

/-- Behind an 'add' of piece m: all but the count. -/
theorem LawAt.added {w : World} {n br bR bp bo bq bg bc k : Nat} {W : World} {bs cap : Nat} {R : RS} {count : Nat → Nat} (h : LawAt w n br bR bp bo bq bg bc k W bs cap R count) {m : Nat} (hm : m < n) {W2 : World} {v S' bs' cap' : Nat}
    (hR : Pcg.Rolls R.S (room R m R.S) v S') (hr : RarAt W2 br bR bp bo bq bg bs' cap' (addR R m v S')) (hbs : bs' = bs ∨ W.heap.size ≤ bs') (hK : Kept (fun k => k = br ∨ k = bp ∨ k = bo ∨ k = bq ∨ k = bg ∨ k = bs) W W2) :
    LawAt w n br bR bp bo bq bg bc (k + 1) (W2.setCell ⟨bc, m, none⟩ (.int .i64 ((count m + 1 : Nat) : Int))) bs' cap' (addR R m v S') (upd count m (count m + 1)) ∧ RowAt W2 bc n count ∧ Below w.heap.size w W2 := by
  obtain ⟨f1, f2, f3, f4, f5, f6⟩ := h.far
  obtain ⟨o1, o2, o3, o4, o5, o6, o7⟩ := h.old
  have hmR : m < R.n := by rw [h.rn]; exact hm
  have hrow := h.cnt.keep hK (not6 f1 f2 f3 f4 f5 f6)
  have hbc := h.cnt.lt
  have fbs : bc ≠ bs' := by rcases hbs with e | e; rw [e]; exact f6; omega
  have hb2 : Below w.heap.size w W2 := h.bel.trans (hK.below _ h.bel.size (fun i hi hF => by rcases hF with e | e | e | e | e | e <;> omega))
  have hv := hR.lt (room_pos h.inv hmR R.S).1
  have I2 := addR_inv h.inv hmR (v := v) (S' := S') hv
  have bRc : bc ≠ bR := fun e => by
    have a := h.rar.rnd
    have b := h.cnt
    unfold RandAt at a
    unfold RowAt at b
    rw [e, a] at b
    have := Option.some.inj b
    simp at this
  refine ⟨⟨?_, I2, ?_, ?_, hrow.set _ _, fun j hj => ?_, fun j hj => ?_, ⟨f1, f2, f3, f4, f5, fbs⟩, ⟨o1, o2, o3, o4, o5, ?_, o7⟩, hb2.setCell o7 _⟩, hrow, hb2⟩
  · exact hr.keep (Kept.cell1 ⟨bc, m, none⟩ _) ⟨f1.symm, bRc.symm, f2.symm, f3.symm, f4.symm, f5.symm, fbs.symm⟩
  · exact h.rn
  · rw [addR_len]
    have := h.len
    split <;> omega
  · rw [addR_group]
    by_cases e : j = m
    · rw [e, upd_same, upd_same, h.grp m hm]
    · rw [upd_ne _ _ e, upd_ne _ _ e, h.grp j hj]
  · have := h.cle j hj
    have := h.cle m hm
    unfold upd
    split <;> omega
  · rcases hbs with e | e
    · rw [e]; exact o6
    · have := h.bel.size; omega

theorem ext_lt {P : Nat → Prop} {j : Nat} (h : ∀ i, i < j → P i) (hj : P j) : ∀ i, i < j + 1 → P i := fun i hi => by
  by_cases hn : i < j
  · exact h i hn
  · obtain rfl : i = j := by omega
    exact hj

/-- The start: nothing is counted. -/
theorem LawAt.start {w : World} {n br bR bp bo bq bg bs : Nat} {w1 : World} {p' q : Nat → Nat} {S' : Nat} (hb : Bij n p' q) (hr : RarAt w1 br bR bp bo bq bg bs 3 (newR n p' q S')) (hbel : Below w.heap.size w w1)
    (l2 : w.heap.size ≤ bp) (l3 : w.heap.size ≤ br) (l4 : w.heap.size ≤ bo) (l5 : w.heap.size ≤ bq) (l6 : w.heap.size ≤ bg) (l7 : w.heap.size ≤ bs) :
    LawAt w n br bR bp bo bq bg w1.heap.size 0 (w1.alloc (.cells (row n fun _ => 0) 3)) bs 3 (newR n p' q S') (fun _ => 0) := by
  have a1 := lt_of_some hr.obj
  have a2 := lt_of_some hr.pcg
  have a3 := hr.order.lt
  have a4 := hr.pos.lt
  have a5 := hr.group.lt
  have a6 := hr.start.lt
  refine ⟨hr.keep (F := fun _ => False) ((Kept.refl _ _).alloc _) ⟨id, id, id, id, id, id, id⟩, newR_inv hb.1 hb.2, rfl, Nat.le_refl _, heap_at _ _ _ rfl, fun _ _ => rfl, fun _ _ => Nat.le_refl _, ⟨by omega, by omega, by omega, by omega, by omega, by omega⟩, ⟨l3, l2, l4, l5, l6, l7, hbel.size⟩, hbel.alloc hbel.size _⟩
end Go.Proofs.Qxb6616210a
