/-
  THE WALKS OF Perm (40), NewPCG (33), New (32).
-/
import Derived.Test.Qxb6616210aShuf
import Derived.Deep.OwnRows
namespace Go.Proofs.Qxb6616210a
open Go.RowKit Go.Lib

theorem RowAt.congr {w : World} {b n : Nat} {f g : Nat → Nat} (h : RowAt w b n f) (e : ∀ i, i < n → f i = g i) : RowAt w b n g := by
  unfold RowAt at *
  rw [h, row_congr e]

theorem made_row (n : Nat) : madeCells #[.int .i64 0] n = row n (fun _ => 0) := by
  apply Array.ext_getElem?
  intro j
  by_cases hj : j < n
  · rw [row_get _ hj]; simp [madeCells, hj, Nat.mod_one]
  · rw [row_none _ (by omega), Array.getElem?_eq_none (by rw [size_madeCells]; omega)]

theorem Try.info3 : (Try.prog.info? 3).map (fun i => (i.zero, i.size, i.bytes)) = some (some (.int .i64 0), 1, 8) := by kernel_rfl

/-- 'make([]int, n)'. -/
theorem make_ints (n : Nat) (hn : n ≤ 35184372088832) (w : World) : (Instr.makeSlice 23 (.int .i64 (n : Int)) (.int .i64 (n : Int))).run Try.prog w = .ok (.slice (some ⟨w.heap.size, 0, none⟩) n n) (w.alloc (.cells (row n fun _ => 0) 3)) := by
  rw [run_make_row' (P := Try.prog) 23 3 (.int .i64 0) 8 Try.underlying23 Try.info3 rfl .i64 .i64 n (by omega) (by omega) w, made_row]

/-- What 'Perm' leaves. -/
def PermPost (bp n S : Nat) (w : World) (e : Ending) (w' : World) : Prop :=
  ∃ bo p' S', e = .returned (.slice (some ⟨bo, 0, none⟩) n n) ∧ Shuf (n - 1) (fun i => i) S p' S' ∧ S' < Pcg.W128 ∧ RowAt w' bo n p' ∧ PcgAt w' bp S' ∧ w.heap.size ≤ bo ∧ Kept (· = bp) w w'

theorem heap_at (w : World) (o : Obj) (i : Nat) (h : i = w.heap.size) : (w.alloc o).heap[i]? = some o := by
  subst h; exact heap_alloc_new w o

def upto (k : Nat) : Nat → Nat := fun i => if i < k then i else 0

set_option maxHeartbeats 1000000 in
theorem perm_any (bR bp S n : Nat) (hS : S < Pcg.W128) (hn : n ≤ 35184372088832) (n1 : bR ≠ bp) (w : World) (hr : RandAt w bR bp) (hP : PcgAt w bp S) :
    Calls Try.prog 40 #[.pointer (some ⟨bR, 0, none⟩), .int .i64 n] w fun e w' => PermPost bp n S w e w' := by
  have HR := hide hr
  have HP := hide hP
  have HS := hide hS
  have hbR : bR < w.heap.size := block_lt_of_cell (a := ⟨bR, 0, none⟩) (by rw [cell_of_row _ _ _ _ _ _ hr]; rfl)
  have hbp : bp < w.heap.size := block_lt_of_cell (a := ⟨bp, 0, none⟩) (by rw [cell_of_row _ _ _ _ _ _ hP]; rfl)
  clear hr hP hS
  have hmk := make_ints n hn
  go_enter Try.func40, Try.ntmps40
  go_wp2_with fail
  clear hmk
  go_loopw [11] (fun i wr => ∃ k : Nat, k ≤ n ∧ i = .int .i64 k ∧ Hid (RowAt wr w.heap.size n (upto k)) ∧ Hid (wr.heap[w.heap.size + 1]? = some (.cells #[.slice (some ⟨w.heap.size, 0, none⟩) n n] 23)) ∧ Hid (Kept (fun _ => False) w wr)) (fun i _ => n - (intOf i).toNat)
  case atStart =>
    refine ⟨0, Nat.zero_le _, rfl, ?_, heap_at _ _ _ (by simp), ((Kept.refl _ _).alloc _).alloc _⟩
    have : RowAt ((w.alloc (.cells (row n fun _ => 0) 3)).alloc (.cells #[.slice (some ⟨w.heap.size, 0, none⟩) n n] 23)) w.heap.size n (fun _ => 0) := by
      unfold RowAt
      rw [Below.heap_alloc _ _ _ (by simp), heap_at _ _ _ rfl]
    exact this.congr (fun i _ => by simp [upto])
  case round =>
    obtain ⟨k, hk, rfl, Hrow, Hvar, HK⟩ := hrel
    have hv : wr.cell? ⟨w.heap.size + 1, 0, none⟩ = some (.slice (some ⟨w.heap.size, 0, none⟩) n n) := by rw [cell_of_row _ _ _ _ _ _ (unhide Hvar)]; rfl
    by_cases hlt : k < n
    · have c := (unhide Hrow).cell hlt
      have f := (unhide Hrow).free k
      have hk' : (k : Int) < (n : Int) := by omega
      go_wp2_with fail
      go_roundw
      case rel =>
        refine ⟨k + 1, by omega, by go_num, ?_, ?_, ?_⟩
        · exact ((unhide Hrow).set k k).congr (fun i _ => by simp only [upd, upto]; split <;> split <;> (try split) <;> omega)
        · rw [heap_setCell_other _ _ _ _ (by simp)]; exact unhide Hvar
        · exact (unhide HK).setCell (fun h => absurd h (by simp)) _
      case measure => simp [intOf]; omega
    · obtain rfl : k = n := by omega
      have hrow := (unhide Hrow).congr (g := fun i => i) (fun i hi => by simp [upto, hi])
      have Hs := hide (shuffle_any bR bp S k (w.heap.size + 1) w.heap.size (fun i => i) (unhide HS) (by omega) n1 (by omega) (by omega) (by omega) (by omega) wr ((unhide HR).keep (unhide HK) (fun h => h)) ((unhide HP).keep (unhide HK) (fun h => h)) hv hrow)
      clear hrow
      go_wp2_with fail
      refine (unhide Hs).mono ?_
      rintro e w1 ⟨rfl, p', S', hsh, hS', hrow', hP', hK'⟩
      have hv1 : w1.cell? ⟨w.heap.size + 1, 0, none⟩ = some (.slice (some ⟨w.heap.size, 0, none⟩) k k) := by
        rw [cell_of_row _ _ _ _ _ _ (hK'.at (unhide Hvar) (by omega))]; rfl
      have HE := hide (show Shuf (k - 1) (fun i => i) S p' S' ∧ S' < Pcg.W128 ∧ RowAt w1 w.heap.size k p' ∧ PcgAt w1 bp S' ∧ Kept (fun i => i = w.heap.size ∨ i = bp) wr w1 from ⟨hsh, hS', hrow', hP', hK'⟩)
      clear hsh hS' hrow' hP' hK' hv
      go_wp2_with fail
      go_ret
      obtain ⟨h1, h2, h3, h4, h5⟩ := unhide HE
      refine ⟨w.heap.size, p', S', rfl, h1, h2, h3, h4, Nat.le_refl _, ?_⟩
      exact ((unhide HK).mono (fun _ _ h => h.elim)).trans h5 (fun i hi h => by rcases h with h | h; omega; exact h)

set_option maxHeartbeats 1000000 in
theorem newPCG_any (s1 s2 : Nat) (w : World) :
    Calls Try.prog 33 #[.int .u64 s1, .int .u64 s2] w fun e w' => e = .returned (.pointer (some ⟨w.heap.size, 0, none⟩)) ∧ w' = w.alloc (.cells #[.int .u64 s1, .int .u64 s2] 78) := by
  go_enter Try.func33, Try.ntmps33
  go_wp2_with fail
  go_ret
  exact ⟨rfl, rfl⟩

set_option maxHeartbeats 1000000 in
theorem new_any (bp : Nat) (w : World) :
    Calls Try.prog 32 #[.iface 52 (.pointer (some ⟨bp, 0, none⟩))] w fun e w' => e = .returned (.pointer (some ⟨w.heap.size, 0, none⟩)) ∧ w' = w.alloc (.cells #[.iface 52 (.pointer (some ⟨bp, 0, none⟩))] 76) := by
  go_enter Try.func32, Try.ntmps32
  go_wp2_with fail
  go_ret
  exact ⟨rfl, rfl⟩
end Go.Proofs.Qxb6616210a
