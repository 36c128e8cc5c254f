/-
  newPieces (19), ZZnewPiecesFrom (13), ZZpiecesFields (14), ZZpiecesFetch (15).
-/
import Derived.Test.Qxb6616348aFt
namespace Go.Proofs.Qxb6616348a
open Go.RowKit
attribute [local go_sem ↓] Go.wp_at_zero Go.wp_at_succ
theorem results_tmp5 {fn : Func} {t u v x y : Tmp} (h : fn.results = #[.tmp t, .tmp u, .tmp v, .tmp x, .tmp y]) (tmps : Array Value) (P : Program) (w : World) :
    (results fn tmps).run P w = .ok (.tuple #[tmps.getD t undef, tmps.getD u undef, tmps.getD v undef, tmps.getD x undef, tmps.getD y undef]) w := by
  simp [results, h]
def Drawn (W w' : World) : Prop := ∃ n, w' = W.drewN n
/-- The reader behind its first fetch. -/
def NewPost (B bx bv bi : Nat) (la : Option Addr) (len : Nat) (L : Nat → Nat) (A : Nat → Option Addr) (bp : Nat) (w0 : World) (W' : World) : Prop :=
  ∃ hv hl, PS W' B (bp + 1) bx bv bi bp (.slice la len len) 1 (decide (lenAt len L 0 = 0)) (pieceAt len L A 0) hv hl ∧ Below B w0 W'
set_option maxRecDepth 100000 in
set_option maxHeartbeats 1000000 in
theorem newPieces_any (bx bv bi : Nat) (la : Option Addr) (len : Nat) (L : Nat → Nat) (A : Nat → Option Addr) (hlen : len ≤ 65536) (hL : ∀ i, i < len → L i ≤ 1048576) (W w0 : World) (hb0 : Below w0.heap.size w0 W) (hC : Cloned w0 la len L A)
    (rx : W.heap[bx]? = some (.cells #[.slice la len len] 28)) (rv : W.heap[bv]? = some (.cells #[.pointer (some ⟨bi, 0, none⟩)] 34)) (ri : W.heap[bi]? = some (.cells #[.int .i64 ((0 : Nat) : Int)] 3)) (g1 : w0.heap.size ≤ bx) (g2 : w0.heap.size ≤ bv) (g3 : w0.heap.size ≤ bi) (n1 : bx ≠ bi) (n3 : bv ≠ bi) :
    Calls Try.prog 19 #[fnv bv bx] W fun e W' => e = .returned (.pointer (some ⟨W.heap.size, 0, none⟩)) ∧ NewPost w0.heap.size bx bv bi la len L A W.heap.size w0 W' := by
  have hA : Below W.heap.size W (W.alloc (.cells #[fnv bv bx, .bool false, .slice none 0 0, .int .i64 0, .int .i64 0, .slice none 0 0] 46)) := (Below.refl _ _).alloc (Nat.le_refl _) _
  have lx := lt_of_some rx
  have lv := lt_of_some rv
  have li := lt_of_some ri
  have hP : PS (W.alloc (.cells #[fnv bv bx, .bool false, .slice none 0 0, .int .i64 0, .int .i64 0, .slice none 0 0] 46)) w0.heap.size (W.heap.size + 1) bx bv bi W.heap.size (.slice la len len) 0 false (.slice none 0 0) (.slice none 0 0) 0 :=
    ⟨row_keep hA rx, row_keep hA rv, row_keep hA ri, heap_at _ _ _ rfl, ⟨[], World.ownsRow_nil _ _ _ _⟩, by omega, ⟨g1, g2, g3, by have := hb0.size; exact this⟩, ⟨by omega, by omega, by omega, by omega, by simp⟩, ⟨n1, by omega, n3, by omega, by omega⟩⟩
  have hb1 : Below w0.heap.size w0 (W.alloc (.cells #[fnv bv bx, .bool false, .slice none 0 0, .int .i64 0, .int .i64 0, .slice none 0 0] 46)) := hb0.trans (hA.mono hb0.size)
  have Hf := hide (fetch_any w0.heap.size (W.heap.size + 1) bx bv bi W.heap.size la len 0 L A (.slice none 0 0) (.slice none 0 0) 0 hlen (Nat.zero_le _) hL _ w0 rfl hb1 hC hP)
  have Hb1 := hide hb1
  have hge := hb0.size
  obtain ⟨a0, ha0⟩ := pieceAt_len len L A 0
  clear hA hP hb1 hb0 hC rx rv ri
  unfold fnv at *
  go_enter Try.func19, Try.ntmps19
  go_wp2_with fail
  refine (unhide Hf).mono ?_
  rintro e W1 ⟨hv, hl, rfl, hP1, hB1⟩
  have HP1 := hide hP1
  have HB1 := hide ((unhide Hb1).trans hB1)
  obtain ⟨c0, c1, c2, c3, c4, c5⟩ := hP1.cells
  have f2 := hP1.free 2
  clear hP1 hB1 Hf Hb1 c0 c1 c3 c4 c5
  have Ha0 := hide ha0
  rw [ha0]
  clear ha0
  go_wp2_with fail
  go_ret
  refine ⟨rfl, hv, hl, ?_, (unhide HB1).setCell (p := ⟨W.heap.size, 2, none⟩) hge _⟩
  rw [unhide Ha0]
  exact (unhide HP1).setPiece _
theorem PS.ptr {W : World} {B base bx bv bi bp : Nat} {lv : Value} {c : Nat} {ended : Bool} {pc hv : Value} {hl : Nat} (h : PS W B base bx bv bi bp lv c ended pc hv hl) : W.cell? ⟨bv, 0, none⟩ = some (.pointer (some ⟨bi, 0, none⟩)) := by rw [cell_of_row _ _ _ _ _ _ h.rv]; rfl
theorem from_held (W : World) (la : Option Addr) (len : Nat) :
    (((W.alloc (.cells #[.slice la len len] 28)).alloc (.cells #[.int .i64 0] 3)).alloc (.cells #[.pointer (some ⟨W.heap.size + 1, 0, none⟩)] 34)).heap[W.heap.size]? = some (.cells #[.slice la len len] 28) ∧
    (((W.alloc (.cells #[.slice la len len] 28)).alloc (.cells #[.int .i64 0] 3)).alloc (.cells #[.pointer (some ⟨W.heap.size + 1, 0, none⟩)] 34)).heap[W.heap.size + 1]? = some (.cells #[.int .i64 0] 3) ∧
    (((W.alloc (.cells #[.slice la len len] 28)).alloc (.cells #[.int .i64 0] 3)).alloc (.cells #[.pointer (some ⟨W.heap.size + 1, 0, none⟩)] 34)).heap[W.heap.size + 1 + 1]? = some (.cells #[.pointer (some ⟨W.heap.size + 1, 0, none⟩)] 34) ∧
    Below W.heap.size W (((W.alloc (.cells #[.slice la len len] 28)).alloc (.cells #[.int .i64 0] 3)).alloc (.cells #[.pointer (some ⟨W.heap.size + 1, 0, none⟩)] 34)) ∧
    (((W.alloc (.cells #[.slice la len len] 28)).alloc (.cells #[.int .i64 0] 3)).alloc (.cells #[.pointer (some ⟨W.heap.size + 1, 0, none⟩)] 34)).heap.size = W.heap.size + 3 := by
  refine ⟨?_, ?_, heap_at _ _ _ (by simp), (((Below.refl _ _).alloc (Nat.le_refl _) _).alloc (by simp) _).alloc (by simp; omega) _, by simp⟩
  · rw [Below.heap_alloc _ _ _ (by simp; omega), Below.heap_alloc _ _ _ (by simp)]
    exact heap_alloc_new _ _
  · rw [Below.heap_alloc _ _ _ (by simp)]
    exact heap_at _ _ _ (by simp)
def FromPost (la : Option Addr) (len : Nat) (L : Nat → Nat) (A : Nat → Option Addr) (W : World) (e : Ending) (W' : World) : Prop :=
  ∃ bx bv bi bp, e = .returned (.tuple #[.pointer (some ⟨bp, 0, none⟩), .pointer (some ⟨bi, 0, none⟩)]) ∧ NewPost W.heap.size bx bv bi la len L A bp W W'
set_option maxRecDepth 100000 in
set_option maxHeartbeats 1000000 in
theorem zznew_any (la : Option Addr) (len : Nat) (L : Nat → Nat) (A : Nat → Option Addr) (hlen : len ≤ 65536) (hL : ∀ i, i < len → L i ≤ 1048576) (W : World) (hC : Cloned W la len L A) :
    Calls Try.prog 13 #[.slice la len len] W (FromPost la len L A W) := by
  have hS := from_held W la len
  go_enter Try.func13, Try.ntmps13
  go_upto_region 3 with fail
  generalize hW1 : ((W.alloc (.cells #[.slice la len len] 28)).alloc (.cells #[.int .i64 0] 3)).alloc (.cells #[.pointer (some ⟨W.heap.size + 1, 0, none⟩)] 34) = W1 at *
  obtain ⟨rx, ri, rv, hb, hz⟩ := hS
  have hb' := hb
  have Hnp := fun (W2 : World) (hb2 : Below W1.heap.size W1 W2) (hz2 : W2.heap.size = W.heap.size + 3) => newPieces_any W.heap.size (W.heap.size + 1 + 1) (W.heap.size + 1) la len L A hlen hL W2 W (hb.trans (hb2.mono hb.size)) hC (row_keep hb2 rx) (row_keep hb2 rv) (row_keep hb2 ri) (Nat.le_refl _) (by omega) (by omega) (by omega) (by omega)
  have cv : W1.cell? ⟨W.heap.size + 1 + 1, 0, none⟩ = some (.pointer (some ⟨W.heap.size + 1, 0, none⟩)) := by rw [cell_of_row _ _ _ _ _ _ rv]; rfl
  have HN := hide Hnp
  have Hz := hide hz
  clear Hnp rx ri rv hb hb' hW1 hC
  unfold fnv at HN
  go_region_held3 (fun W' => W'.cell? ⟨W.heap.size + 1 + 1, 0, none⟩ = some (.pointer (some ⟨W.heap.size + 1, 0, none⟩)))
    (first | exact cv | assumption)
    (first | (go_at_call 19; refine (unhide HN _ ((Below.refl _ _).drew) (unhide Hz)).mono ?_; rintro e W3 ⟨rfl, hv, hl, hP3, hB3⟩; have cv3 := hP3.ptr; have HP3 := hide (And.intro hP3 hB3); clear hP3 hB3))
  go_wp2_with fail
  go_ret2
  have e : W1.drew.heap.size = W.heap.size + 3 := unhide Hz
  obtain ⟨hP3, hB3⟩ := unhide HP3
  rw [e] at hP3
  exact ⟨_, _, _, _, rfl, hv, hl, hP3, hB3⟩
set_option maxRecDepth 100000 in
set_option maxHeartbeats 1000000 in
theorem fields_any (B base bx bv bi bp : Nat) (lv : Value) (c : Nat) (ended : Bool) (pc hv : Value) (hl : Nat) (W : World) (h : PS W B base bx bv bi bp lv c ended pc hv hl) :
    Calls Try.prog 14 #[.pointer (some ⟨bp, 0, none⟩)] W fun e w' => e = .returned (.tuple #[pc, .bool ended, .int .i64 0, .int .i64 0, hv]) ∧ Drawn W w' := by
  obtain ⟨c0, c1, c2, c3, c4, c5⟩ := h.cells
  clear h
  go_enter Try.func14, Try.ntmps14
  go_wp2_with fail
  go_quiet (fail)
  go_wp2_with fail
  refine bodyPost_ret (results_tmp5 rfl _ _ _) rfl ?_
  exact ⟨rfl, _, rfl⟩

/-- The k-th piece is the first empty one. -/
theorem Fst.len {L : Nat → Nat} {len k c : Nat} (h : Fst L len k) (hc : c ≤ k) : decide (lenAt len L c = 0) = decide (k < c + 1) := by
  obtain ⟨h1, h2, h3⟩ := h
  unfold lenAt
  by_cases e : c < k
  · have := h2 c e
    rw [if_pos (by omega)]
    have e1 : ¬ L c = 0 := by omega
    have e2 : ¬ k < c + 1 := by omega
    simp [e1, e2]
  · obtain rfl : c = k := by omega
    have e2 : c < c + 1 := by omega
    by_cases e3 : c < len
    · rw [if_pos e3, h3 e3]; simp
    · rw [if_neg e3]; simp
/-- What was handed over at fetch number i. -/
def LastIs (k : Nat) (L : Nat → Nat) (A : Nat → Option Addr) (i : Nat) (v : Value) : Prop := (i < k → v = .slice (A i) (L i) (L i)) ∧ (k ≤ i → ∃ a c, v = .slice a 0 c)
theorem Fst.last {L : Nat → Nat} {A : Nat → Option Addr} {len k c : Nat} (h : Fst L len k) (hc : c ≤ k) : LastIs k L A c (pieceAt len L A c) := by
  obtain ⟨h1, h2, h3⟩ := h
  unfold pieceAt
  refine ⟨fun e => by rw [if_pos (by omega)], fun e => ?_⟩
  obtain rfl : c = k := by omega
  by_cases e3 : c < len
  · rw [if_pos e3, h3 e3]; exact ⟨_, _, rfl⟩
  · rw [if_neg e3]; exact ⟨_, _, rfl⟩
/-- Behind t fetches, the last of which handed over v. -/
structure St (w0 : World) (base bx bv bi bp : Nat) (la : Option Addr) (len k : Nat) (L : Nat → Nat) (A : Nat → Option Addr) (t : Nat) (v : Value) (W : World) : Prop where
  ps : ∃ pc hv hl, PS W w0.heap.size base bx bv bi bp (.slice la len len) (min t (k + 1)) (decide (k < t)) pc hv hl
  bel : Below w0.heap.size w0 W
  last : LastIs k L A (t - 1) v
def StepPost (w0 : World) (base bx bv bi bp : Nat) (la : Option Addr) (len k : Nat) (L : Nat → Nat) (A : Nat → Option Addr) (t : Nat) (e : Ending) (W' : World) : Prop :=
  ∃ a l c, e = .returned (.slice a l c) ∧ St w0 base bx bv bi bp la len k L A (t + 1) (.slice a l c) W'
theorem fetch_step (w0 : World) (base bx bv bi bp : Nat) (la : Option Addr) (len k : Nat) (L : Nat → Nat) (A : Nat → Option Addr) (t : Nat) (v : Value) (hlen : len ≤ 65536) (hL : ∀ i, i < len → L i ≤ 1048576) (hk : Fst L len k) (hC : Cloned w0 la len L A) (W : World) (h : St w0 base bx bv bi bp la len k L A t v W) :
    Calls Try.prog 20 #[.pointer (some ⟨bp, 0, none⟩)] W (StepPost w0 base bx bv bi bp la len k L A t) := by
  obtain ⟨pc, hv, hl, hP⟩ := h.ps
  by_cases q : k < t
  · have e1 : min t (k + 1) = k + 1 := by omega
    have e2 : min (t + 1) (k + 1) = k + 1 := by omega
    rw [e1, decide_eq_true q] at hP
    refine (fetch_ended _ _ _ _ _ _ _ _ _ _ _ W hP).mono ?_
    rintro e W' ⟨rfl, rfl⟩
    refine ⟨none, 0, 0, rfl, ⟨⟨pc, hv, hl, ?_⟩, h.bel, ⟨fun e => by omega, fun _ => ⟨_, _, rfl⟩⟩⟩⟩
    rw [e2, decide_eq_true (show k < t + 1 by omega)]
    exact hP
  · have e1 : min t (k + 1) = t := by omega
    have e2 : min (t + 1) (k + 1) = t + 1 := by omega
    rw [e1, decide_eq_false q] at hP
    refine (fetch_any _ base bx bv bi bp la len t L A pc hv hl hlen (by have := hk.1; omega) hL W w0 rfl h.bel hC hP).mono ?_
    rintro e W' ⟨hv', hl', rfl, hP', hB'⟩
    obtain ⟨a, ha⟩ := pieceAt_len len L A t
    have hlast := hk.last (A := A) (show t ≤ k by omega)
    rw [hk.len (by omega)] at hP'
    rw [ha] at hlast ⊢
    refine ⟨_, _, _, rfl, ⟨⟨pc, hv', hl', ?_⟩, h.bel.trans hB', ?_⟩⟩
    · rw [e2]
      exact hP'
    · rw [Nat.add_sub_cancel]
      exact hlast
set_option maxRecDepth 100000 in
theorem zzfetch_any (w0 : World) (base bx bv bi bp : Nat) (la : Option Addr) (len k : Nat) (L : Nat → Nat) (A : Nat → Option Addr) (t : Nat) (v : Value) (hlen : len ≤ 65536) (hL : ∀ i, i < len → L i ≤ 1048576) (hk : Fst L len k) (hC : Cloned w0 la len L A) (W : World) (h : St w0 base bx bv bi bp la len k L A t v W) :
    Calls Try.prog 15 #[.pointer (some ⟨bp, 0, none⟩)] W (StepPost w0 base bx bv bi bp la len k L A t) := by
  have Hf := hide (fetch_step w0 base bx bv bi bp la len k L A t v hlen hL hk hC W h)
  clear h hC hk hL
  go_enter Try.func15, Try.ntmps15
  go_wp2_with fail
  refine (unhide Hf).mono ?_
  rintro e W' ⟨a, l, c, rfl, hS⟩
  have HS := hide hS
  clear hS
  go_wp2_with fail
  go_ret
  exact ⟨a, l, c, rfl, unhide HS⟩
set_option maxRecDepth 100000 in
set_option maxHeartbeats 1000000 in
/-- zzSameBytes (21) of a slice with itself. -/
theorem same_any (b n c1 c2 : Nat) (hn : n ≤ 1048576) (w : World) (h : BytesAt w b n) :
    Calls Try.prog 21 #[.slice (some ⟨b, 0, none⟩) n c1, .slice (some ⟨b, 0, none⟩) n c2] w fun e w' => e = .returned (.bool true) ∧ Below w.heap.size w w' := by
  have H := hide h
  have nn : ((n : Int) != (n : Int)) = false := by simp
  clear h
  go_enter Try.func21, Try.ntmps21
  go_wp2_with fail
  clear nn
  go_loopw [5] (fun j wr => ∃ k : Nat, k ≤ n ∧ j = .int .i64 k ∧ Hid (Below w.heap.size w wr)) (fun j _ => n - (intOf j).toNat)
  case atStart => exact ⟨0, Nat.zero_le _, rfl, Below.refl _ _⟩
  case round =>
    obtain ⟨k, hk, rfl, HK⟩ := hrel
    by_cases hlt : k < n
    · obtain ⟨v, hv⟩ := unhide H k hlt
      have c1 := bcell (unhide HK) hv
      have hk' : (k : Int) < (n : Int) := by omega
      have ne : (v != v) = false := by simp
      clear hv
      go_wp2_with fail
      go_quiet (fail)
      go_wp2_with fail
      go_roundw
      case rel => exact ⟨k + 1, by omega, by go_num, below_drewN (unhide HK) _⟩
      case measure => simp [intOf]; omega
    · go_wp2_with fail
      go_ret
      exact ⟨rfl, unhide HK⟩
set_option maxRecDepth 100000 in
set_option maxHeartbeats 1000000 in
theorem handed_any (la : Option Addr) (len k m : Nat) (L : Nat → Nat) (A : Nat → Option Addr) (a : Option Addr) (l c : Nat) (hL : ∀ i, i < len → L i ≤ 1048576) (hk : Fst L len k) (w : World) (hC : Cloned w la len L A) (hlast : LastIs k L A m (.slice a l c)) :
    Calls Try.prog 16 #[.slice a l c, .slice la len len, .int .i64 (k : Nat), .int .i64 (m : Nat)] w fun e w' => e = .returned (.bool true) ∧ Below w.heap.size w w' := by
  obtain ⟨k1, k2, k3⟩ := hk
  by_cases q : m < k
  · have e1 := hlast.1 q
    simp only [Value.slice.injEq] at e1
    obtain ⟨rfl, rfl, rfl⟩ := e1
    obtain ⟨bL, rfl, cz, hh⟩ := hC.at_ m (by omega)
    obtain ⟨b, eb, hB⟩ := hh (k2 m q)
    rw [eb] at cz ⊢
    have Hs := hide (same_any b (L m) (L m) (L m) (hL m (by omega)) w hB)
    have q' : (m : Int) < (k : Int) := by omega
    have q2 : (m : Int) < (len : Int) := by omega
    clear hC hh hB hlast hL k2 k3
    go_enter Try.func16, Try.ntmps16
    go_wp2_with fail
    refine (unhide Hs).mono ?_
    rintro e w1 ⟨rfl, hb⟩
    have HB := hide hb
    clear hb
    go_wp2_with fail
    go_ret
    exact ⟨rfl, unhide HB⟩
  · obtain ⟨a', c', e1⟩ := hlast.2 (by omega)
    simp only [Value.slice.injEq] at e1
    obtain ⟨rfl, rfl, rfl⟩ := e1
    have q' : ¬ (m : Int) < (k : Int) := by omega
    clear hC hlast hL k2 k3
    go_enter Try.func16, Try.ntmps16
    go_wp2_with fail
    go_ret
    exact ⟨rfl, Below.refl _ _⟩
end Go.Proofs.Qxb6616348a
