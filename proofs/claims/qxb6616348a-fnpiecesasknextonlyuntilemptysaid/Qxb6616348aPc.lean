/-
  THE PIECES IN MEMORY: the source (18), fetch (20).
-/
import Derived.Test.Qxb6616348aCl
import Derived.Laws.AppendOwn
import Derived.Deep.Slices
import Derived.Deep.RegionWith
import Derived.Deep.DrawnRows
import Derived.Deep.RegionHeld3
namespace Go.Proofs.Qxb6616348a
open Go.RowKit
attribute [local go_sem ↓] Go.wp_at_zero Go.wp_at_succ
def fnv (bv bx : Nat) : Value := .func (.func 18) #[] #[.pointer (some ⟨bv, 0, none⟩), .pointer (some ⟨bx, 0, none⟩)]
/-- The reader lies in memory: the captured list (bx) and counter (bv, bi), the object (bp); its head is a row of its own, at least 'base'. -/
structure PS (W : World) (B base bx bv bi bp : Nat) (lv : Value) (c : Nat) (ended : Bool) (pc hv : Value) (hl : Nat) : Prop where
  rx : W.heap[bx]? = some (.cells #[lv] 28)
  rv : W.heap[bv]? = some (.cells #[.pointer (some ⟨bi, 0, none⟩)] 34)
  ri : W.heap[bi]? = some (.cells #[.int .i64 (c : Nat)] 3)
  rp : W.heap[bp]? = some (.cells #[fnv bv bx, .bool ended, pc, .int .i64 0, .int .i64 0, hv] 46)
  head : ∃ xs, W.ownsRow base 5 1 hv hl xs
  hle : hl ≤ 40
  ge : B ≤ bx ∧ B ≤ bv ∧ B ≤ bi ∧ B ≤ bp
  lt : bx < base ∧ bv < base ∧ bi < base ∧ bp < base ∧ base ≤ W.heap.size
  ne : bx ≠ bi ∧ bx ≠ bp ∧ bv ≠ bi ∧ bv ≠ bp ∧ bi ≠ bp
/-- What the source hands over at its call number c. -/
def pieceAt (len : Nat) (L : Nat → Nat) (A : Nat → Option Addr) (c : Nat) : Value := if c < len then .slice (A c) (L c) (L c) else .slice none 0 0
set_option maxRecDepth 100000 in
set_option maxHeartbeats 1000000 in
theorem next_any (bx bv bi len c : Nat) (la : Option Addr) (L : Nat → Nat) (A : Nat → Option Addr) (hc : c ≤ 65537) (n1 : bx ≠ bi) (n2 : bv ≠ bi) (W : World) (rx : W.heap[bx]? = some (.cells #[.slice la len len] 28)) (rv : W.heap[bv]? = some (.cells #[.pointer (some ⟨bi, 0, none⟩)] 34)) (ri : W.heap[bi]? = some (.cells #[.int .i64 (c : Nat)] 3)) (hb : c < len → ∀ b o, la = some ⟨b, o, none⟩ → b ≠ bi) (h : Cloned W la len L A) :
    Calls Try.prog 18 #[.pointer (some ⟨bv, 0, none⟩), .pointer (some ⟨bx, 0, none⟩)] W fun e w' => e = .returned (pieceAt len L A c) ∧ w' = W.setCell ⟨bi, 0, none⟩ (.int .i64 ((c + 1 : Nat) : Int)) := by
  have cx : W.cell? ⟨bx, 0, none⟩ = some (.slice la len len) := by rw [cell_of_row _ _ _ _ _ _ rx]; rfl
  have cv : W.cell? ⟨bv, 0, none⟩ = some (.pointer (some ⟨bi, 0, none⟩)) := by rw [cell_of_row _ _ _ _ _ _ rv]; rfl
  have ci : W.cell? ⟨bi, 0, none⟩ = some (.int .i64 (c : Nat)) := by rw [cell_of_row _ _ _ _ _ _ ri]; rfl
  have fi : W.frozen? ⟨bi, 0, none⟩ = false := frozen_of_row _ _ _ _ _ ri
  have n1' : ¬ bi = bx := fun e => n1 e.symm
  have n2' : ¬ bi = bv := fun e => n2 e.symm
  unfold pieceAt
  by_cases q : c < len
  · rw [if_pos q]
    obtain ⟨bL, rfl, cz, _⟩ := h.at_ c q
    have hbi : ¬ bi = bL := fun e => hb q bL 0 rfl e.symm
    have cz' : (W.setCell ⟨bi, 0, none⟩ (.int .i64 ((c : Int) + 1))).cell? ⟨bL, c, none⟩ = some (.slice (A c) (L c) (L c)) := (World.cell?_setCell_other _ ⟨bi, 0, none⟩ ⟨bL, c, none⟩ _ (fun e => hbi (congrArg Addr.block e))).trans cz
    have q' : (c : Int) < (len : Int) := by omega
    have q2 : ¬ (len : Int) ≤ (c : Int) := by omega
    clear h rx rv ri hb
    go_enter Try.func18, Try.ntmps18
    go_wp2_with fail
    go_ret
    exact ⟨rfl, by simp⟩
  · rw [if_neg q]
    have q2 : (len : Int) ≤ (c : Int) := by omega
    clear h rx rv ri hb
    go_enter Try.func18, Try.ntmps18
    go_wp2_with fail
    go_ret
    exact ⟨rfl, by simp⟩
/-- The length of what the source hands over. -/
def lenAt (len : Nat) (L : Nat → Nat) (c : Nat) : Nat := if c < len then L c else 0
theorem pieceAt_len (len : Nat) (L : Nat → Nat) (A : Nat → Option Addr) (c : Nat) : ∃ a, pieceAt len L A c = .slice a (lenAt len L c) (lenAt len L c) := by
  unfold pieceAt lenAt
  split
  · exact ⟨_, rfl⟩
  · exact ⟨_, rfl⟩
def FetchPost (B base bx bv bi bp : Nat) (lv : Value) (c : Nat) (pc : Value) (len : Nat) (L : Nat → Nat) (A : Nat → Option Addr) (W : World) (e : Ending) (W' : World) : Prop :=
  ∃ hv' hl', e = .returned (pieceAt len L A c) ∧ PS W' B base bx bv bi bp lv (c + 1) (decide (lenAt len L c = 0)) pc hv' hl' ∧ Below B W W'
section
variable {W W' : World} {B base bx bv bi bp : Nat} {lv : Value} {c : Nat} {ended : Bool} {pc hv : Value} {hl : Nat}
theorem PS.cells (h : PS W B base bx bv bi bp lv c ended pc hv hl) : W.cell? ⟨bp, 0, none⟩ = some (fnv bv bx) ∧ W.cell? ⟨bp, 1, none⟩ = some (.bool ended) ∧ W.cell? ⟨bp, 2, none⟩ = some pc ∧ W.cell? ⟨bp, 3, none⟩ = some (.int .i64 0) ∧ W.cell? ⟨bp, 4, none⟩ = some (.int .i64 0) ∧ W.cell? ⟨bp, 5, none⟩ = some hv := by
  refine ⟨?_, ?_, ?_, ?_, ?_, ?_⟩ <;> (rw [cell_of_row _ _ _ _ _ _ h.rp]; rfl)
theorem PS.free (h : PS W B base bx bv bi bp lv c ended pc hv hl) (i : Nat) : W.frozen? ⟨bp, i, none⟩ = false := frozen_of_row _ _ _ _ _ h.rp
theorem owns_keep {xs : List Value} {v : Value} {n : Nat} (h : W.ownsRow base 5 1 v n xs) (hk : ∀ b, base ≤ b → b < W.heap.size → W'.heap[b]? = W.heap[b]?) : W'.ownsRow base 5 1 v n xs := by
  obtain ⟨h1, h2⟩ := h
  refine ⟨h1, ?_⟩
  rcases h2 with h | ⟨g, cap, cur, e1, e2, e3, e4⟩
  · exact .inl h
  · exact .inr ⟨g, cap, cur, e1, e2, by rw [hk g e2 (lt_of_some e3)]; exact e3, e4⟩
/-- The counter goes up. -/
theorem PS.count (h : PS W B base bx bv bi bp lv c ended pc hv hl) (c' : Nat) : PS (W.setCell ⟨bi, 0, none⟩ (.int .i64 (c' : Nat))) B base bx bv bi bp lv c' ended pc hv hl := by
  obtain ⟨n1, n2, n3, n4, n5⟩ := h.ne
  obtain ⟨l1, l2, l3, l4, l5⟩ := h.lt
  obtain ⟨xs, hx⟩ := h.head
  refine ⟨by rw [heap_setCell_other _ _ _ _ n1]; exact h.rx, by rw [heap_setCell_other _ _ _ _ n3]; exact h.rv, ?_, by rw [heap_setCell_other _ _ _ _ n5.symm]; exact h.rp, ⟨xs, owns_keep hx (fun b hb _ => heap_setCell_other _ _ _ _ (by simp only; omega))⟩, h.hle, h.ge, by simp; exact h.lt, h.ne⟩
  rw [heap_setCell_same _ _ _ _ _ _ h.ri]; rfl
theorem PS.setEnded (h : PS W B base bx bv bi bp lv c ended pc hv hl) (r : Bool) : PS (W.setCell ⟨bp, 1, none⟩ (.bool r)) B base bx bv bi bp lv c r pc hv hl := by
  obtain ⟨n1, n2, n3, n4, n5⟩ := h.ne
  obtain ⟨l1, l2, l3, l4, l5⟩ := h.lt
  obtain ⟨xs, hx⟩ := h.head
  refine ⟨by rw [heap_setCell_other _ _ _ _ n2]; exact h.rx, by rw [heap_setCell_other _ _ _ _ n4]; exact h.rv, by rw [heap_setCell_other _ _ _ _ n5]; exact h.ri, ?_, ⟨xs, owns_keep hx (fun b hb _ => heap_setCell_other _ _ _ _ (by simp only; omega))⟩, h.hle, h.ge, by simp; exact h.lt, h.ne⟩
  rw [heap_setCell_same _ _ _ _ _ _ h.rp]; rfl
theorem PS.setPiece (h : PS W B base bx bv bi bp lv c ended pc hv hl) (r : Value) : PS (W.setCell ⟨bp, 2, none⟩ r) B base bx bv bi bp lv c ended r hv hl := by
  obtain ⟨n1, n2, n3, n4, n5⟩ := h.ne
  obtain ⟨l1, l2, l3, l4, l5⟩ := h.lt
  obtain ⟨xs, hx⟩ := h.head
  refine ⟨by rw [heap_setCell_other _ _ _ _ n2]; exact h.rx, by rw [heap_setCell_other _ _ _ _ n4]; exact h.rv, by rw [heap_setCell_other _ _ _ _ n5]; exact h.ri, ?_, ⟨xs, owns_keep hx (fun b hb _ => heap_setCell_other _ _ _ _ (by simp only; omega))⟩, h.hle, h.ge, by simp; exact h.lt, h.ne⟩
  rw [heap_setCell_same _ _ _ _ _ _ h.rp]; rfl
/-- The head has grown (W'), and is laid into the object. -/
theorem PS.setHead (h : PS W B base bx bv bi bp lv c ended pc hv hl) {hv' : Value} {hl' : Nat} {xs : List Value} (hg : W.grownBy W' hv.ownBlock) (ho : W'.ownsRow base 5 1 hv' hl' xs) (hle : hl' ≤ 40) : PS (W'.setCell ⟨bp, 5, none⟩ hv') B base bx bv bi bp lv c ended pc hv' hl' ∧ Below base W W' := by
  obtain ⟨n1, n2, n3, n4, n5⟩ := h.ne
  obtain ⟨l1, l2, l3, l4, l5⟩ := h.lt
  obtain ⟨ys, hy⟩ := h.head
  have hob : ∀ b, b < base → some b ≠ hv.ownBlock := fun b hb e => by
    rcases hy.2 with ⟨rfl, _⟩ | ⟨g, cap, cur, rfl, e2, _⟩
    · cases e
    · simp [Value.ownBlock] at e
      omega
  have hk : ∀ b, b < base → W'.heap[b]? = W.heap[b]? := fun b hb => hg.block b (by omega) (hob b hb)
  have hbel : Below base W W' := ⟨hg.os, hg.tape, hg.output, hg.size, hk⟩
  have hs := hg.size
  refine ⟨⟨by rw [heap_setCell_other _ _ _ _ n2, hk _ l1]; exact h.rx, by rw [heap_setCell_other _ _ _ _ n4, hk _ l2]; exact h.rv, by rw [heap_setCell_other _ _ _ _ n5, hk _ l3]; exact h.ri, ?_, ⟨xs, owns_keep ho (fun b hb _ => heap_setCell_other _ _ _ _ (by simp only; omega))⟩, hle, h.ge, ⟨l1, l2, l3, l4, by simp; omega⟩, h.ne⟩, hbel⟩
  have := (hk _ l4).trans h.rp
  rw [heap_setCell_same _ _ _ _ _ _ this]; rfl
end
end Go.Proofs.Qxb6616348a
