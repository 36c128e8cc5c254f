/-
  THE WALKS OF newRarity (31), ZZnewRarity (9).
-/
import Derived.Test.Qxb6616210aAdd
import Derived.Deep.RegionWith
import Derived.Deep.CutRange
import Derived.Deep.DrawnRows
namespace Go.Proofs.Qxb6616210a
open Go.RowKit Go.Lib
attribute [local go_sem ↓] Go.wp_at_zero Go.wp_at_succ

/-- What 'newRarity' has laid ahead of its loop. -/
def MidPost (bR bp n S : Nat) (w : World) (p : Value) (W : World) : Prop :=
  ∃ br bo bq bg bs p' S', p = .pointer (some ⟨br, 0, none⟩) ∧ Shuf (n - 1) (fun i => i) S p' S' ∧
    RarAt W br bR bp bo bq bg bs 3 { n := n, len := 3, order := p', pos := fun _ => 0, group := fun _ => 0, start := fun h => if h = 2 then n else 0, S := S' } ∧
    Kept (· = bp) w W ∧ w.heap.size ≤ br ∧ w.heap.size ≤ bo ∧ w.heap.size ≤ bq ∧ w.heap.size ≤ bg ∧ w.heap.size ≤ bs

/-- What 'newRarity' leaves. -/
def NewPost (bR bp n S : Nat) (w : World) (e : Ending) (w' : World) : Prop :=
  ∃ br bo bq bg bs p' q S', e = .returned (.pointer (some ⟨br, 0, none⟩)) ∧ Shuf (n - 1) (fun i => i) S p' S' ∧ Bij n p' q ∧ RarAt w' br bR bp bo bq bg bs 3 (newR n p' q S') ∧
    Kept (· = bp) w w' ∧ w.heap.size ≤ br ∧ w.heap.size ≤ bo ∧ w.heap.size ≤ bq ∧ w.heap.size ≤ bg ∧ w.heap.size ≤ bs

/-- In the loop: the places and groups of the first k of the order are laid. -/
def LoopAt (bR bp n : Nat) (w : World) (br bo bq bg bs : Nat) (p' : Nat → Nat) (S' k : Nat) (W : World) : Prop :=
  ∃ f g : Nat → Nat, (∀ x, x < k → f (p' x) = x) ∧ (∀ x, x < k → g (p' x) = 1) ∧
    RarAt W br bR bp bo bq bg bs 3 { n := n, len := 3, order := p', pos := f, group := g, start := fun h => if h = 2 then n else 0, S := S' } ∧ Kept (· = bp) w W

theorem RarAt.setPos {w : World} {br bR bp bo bq bg bs cap : Nat} {R : RS} (h : RarAt w br bR bp bo bq bg bs cap R) (k v : Nat) : RarAt (w.setCell ⟨bq, k, none⟩ (.int .i64 (v : Nat))) br bR bp bo bq bg bs cap { R with pos := upd R.pos k v } := by
  obtain ⟨rR, rp, ro, rq, rg, rs, Rp, Ro, Rq, Rg, Rs, po, pq, pg, ps, oq, og, os, qg, qs, gs⟩ := h.apart
  have hK := Kept.cell1 (w := w) ⟨bq, k, none⟩ (.int .i64 (v : Nat))
  exact ⟨hK.at h.obj rq, h.rnd.keep hK Rq, h.pcg.keep hK pq, h.state, h.order.keep hK oq, h.pos.set k v, h.group.keep hK qg.symm, h.start.keep hK qs.symm, h.apart⟩

theorem heap_step {w : World} {o : Obj} {k : Nat} {x : Option Obj} (hm : w.heap[k]? = x) (h : k < w.heap.size) : (w.alloc o).heap[k]? = x := by rw [Below.heap_alloc _ _ _ h, hm]

theorem MidPost.mk {bR bp n S : Nat} {w W : World} {p : Value} (br bo bq bg bs : Nat) (p' : Nat → Nat) (S' : Nat) (hp : p = .pointer (some ⟨br, 0, none⟩))
    (hobj : W.heap[br]? = some (.cells #[.pointer (some ⟨bR, 0, none⟩), .slice (some ⟨bo, 0, none⟩) n n, .slice (some ⟨bq, 0, none⟩) n n, .slice (some ⟨bg, 0, none⟩) n n, .slice (some ⟨bs, 0, none⟩) 3 3] 56))
    (hsh : Shuf (n - 1) (fun i => i) S p' S') (hS' : S' < Pcg.W128) (hbR : bR < w.heap.size) (hbp : bp < w.heap.size) (n1 : bR ≠ bp)
    (ho : RowAt W bo n p') (hP : PcgAt W bp S') (hR : RandAt W bR bp) (hK : Kept (· = bp) w W)
    (hq : W.heap[bq]? = some (.cells (row n fun _ => 0) 3)) (hg : W.heap[bg]? = some (.cells (row n fun _ => 0) 3)) (hs : W.heap[bs]? = some (.cells #[.int .i64 0, .int .i64 0, .int .i64 (n : Nat)] 3))
    (l1 : w.heap.size ≤ br) (l2 : w.heap.size ≤ bo) (l3 : w.heap.size ≤ bq) (l4 : w.heap.size ≤ bg) (l5 : w.heap.size ≤ bs)
    (d1 : br ≠ bo) (d2 : br ≠ bq) (d3 : br ≠ bg) (d4 : br ≠ bs) (d5 : bo ≠ bq) (d6 : bo ≠ bg) (d7 : bo ≠ bs) (d8 : bq ≠ bg) (d9 : bq ≠ bs) (d10 : bg ≠ bs) : MidPost bR bp n S w p W := by
  have f : ∀ {a b : Nat}, a < w.heap.size → w.heap.size ≤ b → a ≠ b := fun h1 h2 => Nat.ne_of_lt (Nat.lt_of_lt_of_le h1 h2)
  refine ⟨br, bo, bq, bg, bs, p', S', hp, hsh, ⟨hobj, hR, hP, hS', ho, hq, hg, ?_, ?_⟩, hK, l1, l2, l3, l4, l5⟩
  · refine ⟨_, hs, rfl, Nat.le_refl _, by unfold maxLen; decide, fun i hi => ?_⟩
    match i, hi with
    | 0, _ => rfl
    | 1, _ => rfl
    | 2, _ => rfl
  · exact ⟨(f hbR l1).symm, (f hbp l1).symm, d1, d2, d3, d4, n1, f hbR l2, f hbR l3, f hbR l4, f hbR l5, f hbp l2, f hbp l3, f hbp l4, f hbp l5, d5, d6, d7, d8, d9, d10⟩

set_option maxRecDepth 100000 in
set_option maxHeartbeats 4000000 in
theorem newRarity_any (bR bp S n : Nat) (hS : S < Pcg.W128) (hn : n ≤ 35184372088832) (n1 : bR ≠ bp) (w : World) (hr : RandAt w bR bp) (hP : PcgAt w bp S) :
    Calls Try.prog 31 #[.int .i64 n, .pointer (some ⟨bR, 0, none⟩)] w fun e w' => NewPost bR bp n S w e w' := by
  have HR := hide hr
  have HP := hide hP
  have HS := hide hS
  have hbR : bR < w.heap.size := lt_of_some hr
  have hbp : bp < w.heap.size := lt_of_some hP
  clear hr hP hS
  have hmk := make_ints n hn
  have Hpm := hide (fun (wx : World) (hx : Kept (fun _ => False) w wx) => perm_any bR bp S n (unhide HS) hn n1 wx ((unhide HR).keep hx id) ((unhide HP).keep hx id))
  go_enter Try.func31, Try.ntmps31
  go_upto_region 1 with fail
  go_cut [5] from 8 to 19 (fun p W => MidPost bR bp n S w p W)
  case first =>
    go_region_with (go_at_call 40; refine (unhide Hpm _ (by repeat (first | exact Kept.refl _ _ | refine Kept.drew ?_ | refine Kept.alloc ?_ _))).mono ?_; rintro e w1 ⟨bo, p', S', rfl, hsh, hS', hrow, hP', hle, hK⟩)
    all_goals
      have hs := hK.size
      have hlo := hrow.lt
      have HX := hide (show Shuf (n - 1) (fun i => i) S p' S' ∧ S' < Pcg.W128 ∧ RowAt w1 bo n p' ∧ PcgAt w1 bp S' ∧ Kept (· = bp) _ w1 from ⟨hsh, hS', hrow, hP', hK⟩)
      clear hsh hS' hrow hP' hK
      try simp at hs hle
      go_wp2_with fail
      go_meet
      obtain ⟨x1, x2, x3, x4, x5⟩ := unhide HX
      have r1 := ((unhide HR).keep (F := fun _ => False) (by repeat (first | exact Kept.refl _ _ | refine Kept.drew ?_ | refine Kept.alloc ?_ _)) id).keep x5 n1
      refine MidPost.mk _ bo _ _ _ p' S' rfl (heap_at _ _ _ (by simp)) x1 x2 hbR hbp n1 ?_ ?_ ?_ ?_ ?_ ?_ ?_ ?_ ?_ ?_ ?_ ?_ ?_ ?_ ?_ ?_ ?_ ?_ ?_ ?_ ?_ ?_
      case refine_1 => exact x3.keep (F := fun _ => False) (by repeat (first | exact Kept.refl _ _ | refine Kept.drew ?_ | refine Kept.alloc ?_ _)) id
      case refine_2 => exact x4.keep (F := fun _ => False) (by repeat (first | exact Kept.refl _ _ | refine Kept.drew ?_ | refine Kept.alloc ?_ _)) id
      case refine_3 => exact r1.keep (F := fun _ => False) (by repeat (first | exact Kept.refl _ _ | refine Kept.drew ?_ | refine Kept.alloc ?_ _)) id
      case refine_4 => exact Kept.trans (F := (· = bp)) (G := (· = bp)) (by repeat (first | exact Kept.refl _ _ | refine Kept.drew ?_ | refine Kept.alloc ?_ _)) (x5.trans (G := fun _ => False) (by repeat (first | exact Kept.refl _ _ | refine Kept.drew ?_ | refine Kept.alloc ?_ _)) (fun _ _ h => h.elim)) (fun _ _ h => h)
      case refine_5 => ((repeat (first | (refine heap_at _ _ _ ?_; focus (simp; done)) | rw [heap_drew] | refine heap_step ?_ ?_ | refine x5.at ?_ ?_)) <;> first | omega | (simp; done) | (simp; omega))
      case refine_6 => ((repeat (first | (refine heap_at _ _ _ ?_; focus (simp; done)) | rw [heap_drew] | refine heap_step ?_ ?_ | refine x5.at ?_ ?_)) <;> first | omega | (simp; done) | (simp; omega))
      case refine_7 => ((repeat (first | (refine heap_at _ _ _ ?_; focus (simp; done)) | rw [heap_drew] | refine heap_step ?_ ?_ | refine x5.at ?_ ?_)) <;> first | omega | (simp; done) | (simp; omega))
      all_goals omega
  case rest =>
    clear hmk Hpm
    obtain ⟨br, bo, bq, bg, bs, p', S', rfl, hsh, hRar, hKc, l1, l2, l3, l4, l5⟩ := hcut
    obtain ⟨q, hbij⟩ := hsh.bij (Bij.refl n) (by omega)
    obtain ⟨c0, c1, c2, c3, c4⟩ := hRar.field
    have HL := hide (show LoopAt bR bp n w br bo bq bg bs p' S' 0 wc from ⟨_, _, fun x hx => by omega, fun x hx => by omega, hRar, hKc⟩)
    have HF := hide (show Shuf (n - 1) (fun i => i) S p' S' ∧ Bij n p' q from ⟨hsh, hbij⟩)
    clear hRar hKc hsh hbij
    go_wp2_with fail
    clear c0 c1 c2 c3 c4
    go_loopw [25] (fun i wr => ∃ k : Nat, k ≤ n ∧ i = .int .i64 k ∧ Hid (LoopAt bR bp n w br bo bq bg bs p' S' k wr)) (fun i _ => n - (intOf i).toNat)
    case atStart => exact ⟨0, Nat.zero_le _, rfl, HL⟩
    case round =>
      clear HL
      obtain ⟨k, hk, rfl, HL⟩ := hrel
      obtain ⟨f, g, hf, hg, hRar, hKr⟩ := unhide HL
      by_cases hlt : k < n
      · have hp := ((unhide HF).2.2 k hlt).1
        have co : wr.cell? ⟨bo, k, none⟩ = some (.int .i64 (p' k : Nat)) := hRar.order.cell hlt
        have c2 : wr.cell? ⟨br, 2, none⟩ = some (.slice (some ⟨bq, 0, none⟩) n n) := hRar.field.2.2.1
        have cq : wr.cell? ⟨bq, p' k, none⟩ = some (.int .i64 (f (p' k) : Nat)) := hRar.pos.cell hp
        have fq := hRar.pos.free (p' k)
        have hk' : (k : Int) < (n : Int) := by omega
        have hp' : (p' k : Int) < (n : Int) := by omega
        have HH := hide (show (∀ x, x < k → f (p' x) = x) ∧ (∀ x, x < k → g (p' x) = 1) from ⟨hf, hg⟩)
        have HRar := hide hRar
        have HKr := hide hKr
        clear hf hg hRar hKr HL
        go_upto_region 6 with fail
        refine wp_forget (fun W => RarAt W br bR bp bo bq bg bs 3 { n := n, len := 3, order := p', pos := upd f (p' k) k, group := g, start := fun h => if h = 2 then n else 0, S := S' } ∧ Kept (· = bp) w W) ⟨(unhide HRar).setPos (p' k) k, (unhide HKr).setCell (fun h => absurd h (Nat.not_lt.2 l3)) _⟩ ?_
        clear co c2 cq fq HRar HKr
        rintro W ⟨hRar, hKr⟩
        have c3 : W.cell? ⟨br, 3, none⟩ = some (.slice (some ⟨bg, 0, none⟩) n n) := hRar.field.2.2.2.1
        have cg : W.cell? ⟨bg, p' k, none⟩ = some (.int .i64 (g (p' k) : Nat)) := hRar.group.cell hp
        have fg := hRar.group.free (p' k)
        have HRar := hide hRar
        have HKr := hide hKr
        clear hRar hKr
        go_wp2_with fail
        go_roundw
        case rel =>
          obtain ⟨h1, h2⟩ := unhide HH
          have inj : ∀ x, x < k → p' x ≠ p' k := fun x hx e => by
            have a := ((unhide HF).2.2 x (by omega)).2
            have b := ((unhide HF).2.2 k hlt).2
            rw [e, b] at a; omega
          refine ⟨k + 1, by omega, by go_num, upd f (p' k) k, upd g (p' k) 1, fun x hx => ?_, fun x hx => ?_, (unhide HRar).setGroup (p' k) 1, (unhide HKr).setCell (fun h => absurd h (Nat.not_lt.2 l4)) _⟩
          · by_cases e : x < k
            · rw [upd_ne _ _ (inj x e)]; exact h1 x e
            · obtain rfl : x = k := by omega
              rw [upd_same]
          · by_cases e : x < k
            · rw [upd_ne _ _ (inj x e)]; exact h2 x e
            · obtain rfl : x = k := by omega
              rw [upd_same]
        case measure => simp [intOf]; omega
      · have HH := hide (show (∀ x, x < k → f (p' x) = x) ∧ (∀ x, x < k → g (p' x) = 1) ∧ RarAt wr br bR bp bo bq bg bs 3 { n := n, len := 3, order := p', pos := f, group := g, start := fun h => if h = 2 then n else 0, S := S' } ∧ Kept (· = bp) w wr from ⟨hf, hg, hRar, hKr⟩)
        clear hf hg hRar hKr HL
        go_wp2_with fail
        go_ret
        obtain ⟨hf, hg, hRar, hKr⟩ := unhide HH
        obtain ⟨hsh, hbij⟩ := unhide HF
        obtain rfl : k = n := by omega
        refine ⟨br, bo, bq, bg, bs, p', q, S', rfl, hsh, hbij, ⟨hRar.obj, hRar.rnd, hRar.pcg, hRar.state, hRar.order, ?_, ?_, hRar.start, hRar.apart⟩, hKr, l1, l2, l3, l4, l5⟩
        · refine hRar.pos.congr (fun i hi => ?_)
          have := hf (q i) (hbij.1 i hi).1
          rw [(hbij.1 i hi).2] at this
          exact this
        · refine hRar.group.congr (fun i hi => ?_)
          have := hg (q i) (hbij.1 i hi).1
          rw [(hbij.1 i hi).2] at this
          exact this

/-- What 'ZZnewRarity' leaves. -/
def ZNewPost (n S : Nat) (w : World) (e : Ending) (w' : World) : Prop :=
  ∃ bR bp br bo bq bg bs p' q S', e = .returned (.pointer (some ⟨br, 0, none⟩)) ∧ Shuf (n - 1) (fun i => i) S p' S' ∧ Bij n p' q ∧ RarAt w' br bR bp bo bq bg bs 3 (newR n p' q S') ∧
    Below w.heap.size w w' ∧ w.heap.size ≤ bR ∧ w.heap.size ≤ bp ∧ w.heap.size ≤ br ∧ w.heap.size ≤ bo ∧ w.heap.size ≤ bq ∧ w.heap.size ≤ bg ∧ w.heap.size ≤ bs

theorem pcg_of {w : World} {bp s1 s2 : Nat} (h2 : s2 < 18446744073709551616) (h : w.heap[bp]? = some (.cells #[.int .u64 (s1 : Nat), .int .u64 (s2 : Nat)] 78)) : PcgAt w bp (s1 * 18446744073709551616 + s2) := by
  unfold PcgAt
  obtain ⟨a, b⟩ := split_div s1 s2 h2
  rw [a, b]; exact h

set_option maxHeartbeats 1000000 in
theorem zznew_any (n s1 s2 : Nat) (hn : n ≤ 35184372088832) (h1 : s1 < 18446744073709551616) (h2 : s2 < 18446744073709551616) (w : World) :
    Calls Try.prog 9 #[.int .i64 n, .int .u64 s1, .int .u64 s2] w fun e w' => ZNewPost n (s1 * 18446744073709551616 + s2) w e w' := by
  have c1 := hide (newPCG_any s1 s2 w)
  have c2 := hide (new_any w.heap.size (w.alloc (.cells #[.int .u64 s1, .int .u64 s2] 78)))
  have hP : PcgAt ((w.alloc (.cells #[.int .u64 s1, .int .u64 s2] 78)).alloc (.cells #[.iface 52 (.pointer (some ⟨w.heap.size, 0, none⟩))] 76)) w.heap.size (s1 * 18446744073709551616 + s2) :=
    pcg_of h2 (heap_step (heap_at _ _ _ rfl) (by simp))
  have hR : RandAt ((w.alloc (.cells #[.int .u64 s1, .int .u64 s2] 78)).alloc (.cells #[.iface 52 (.pointer (some ⟨w.heap.size, 0, none⟩))] 76)) (w.heap.size + 1) w.heap.size :=
    heap_at _ _ _ (by simp)
  have c3 := hide (newRarity_any (w.heap.size + 1) w.heap.size (s1 * 18446744073709551616 + s2) n (by unfold Pcg.W128; omega) hn (by omega) _ hR hP)
  clear hP hR
  go_enter Try.func9, Try.ntmps9
  go_wp2_with fail
  refine (unhide c1).mono ?_
  rintro e w1 ⟨rfl, rfl⟩
  go_wp2_with fail
  refine (unhide c2).mono ?_
  rintro e w1 ⟨rfl, rfl⟩
  go_wp2_with fail
  refine (unhide c3).mono ?_
  rintro e w2 ⟨br, bo, bq, bg, bs, p', q, S', rfl, hsh, hbij, hRar, hK, l1, l2, l3, l4, l5⟩
  simp at l1 l2 l3 l4 l5
  go_wp2_with fail
  go_ret
  refine ⟨w.heap.size + 1, w.heap.size, br, bo, bq, bg, bs, p', q, S', rfl, hsh, hbij, hRar, ?_, by omega, by omega, by omega, by omega, by omega, by omega, by omega⟩
  have k1 : Kept (fun _ => False) w ((w.alloc (.cells #[.int .u64 s1, .int .u64 s2] 78)).alloc (.cells #[.iface 52 (.pointer (some ⟨w.heap.size, 0, none⟩))] 76)) := ((Kept.refl _ _).alloc _).alloc _
  exact (k1.trans hK (fun i hi h => by omega)).below _ (Nat.le_refl _) (fun _ _ h => h)

end Go.Proofs.Qxb6616210a
