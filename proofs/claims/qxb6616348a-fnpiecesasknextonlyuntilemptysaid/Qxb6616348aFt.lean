/-
  fetch (20).
-/
import Derived.Test.Qxb6616348aPc
import Derived.Deep.RegionLaw
import Derived.Deep.AppendLies
namespace Go.Proofs.Qxb6616348a
open Go.RowKit
attribute [local go_sem ↓] Go.wp_at_zero Go.wp_at_succ
set_option maxRecDepth 100000 in
set_option maxHeartbeats 1000000 in
theorem fetch_ended (B base bx bv bi bp : Nat) (lv : Value) (c : Nat) (pc hv : Value) (hl : Nat) (W : World) (h : PS W B base bx bv bi bp lv c true pc hv hl) :
    Calls Try.prog 20 #[.pointer (some ⟨bp, 0, none⟩)] W fun e w' => e = .returned (.slice none 0 0) ∧ w' = W := by
  obtain ⟨c0, c1, c2, c3, c4, c5⟩ := h.cells
  clear h
  go_enter Try.func20, Try.ntmps20
  go_wp2_with fail
  go_ret
  exact ⟨rfl, rfl⟩
def newsOf (n : Nat) (z : Nat → Int) : List Value := (List.range n).map fun j => Value.int .u8 (z j)
theorem newsOf_at {W : World} {b n : Nat} {z : Nat → Int} (hz : ∀ j, j < n → W.cell? ⟨b, j, none⟩ = some (.int .u8 (z j))) : ∀ j u, (newsOf n z)[j]? = some u → W.cell? ((⟨b, 0, none⟩ : Addr).add j) = some u := fun j u hu => by
  unfold newsOf at hu
  rw [List.getElem?_map] at hu
  by_cases hj : j < n
  · simp [hj] at hu
    rw [← hu]
    have := hz j hj
    cases j with
    | zero => exact this
    | succ j => simpa [Addr.add] using this
  · simp [hj] at hu
theorem newsOf_one (n : Nat) (z : Nat → Int) : ∀ u ∈ newsOf n z, u.oneCell' = true := fun u hu => by
  unfold newsOf at hu
  simp only [List.mem_map] at hu
  obtain ⟨j, _, rfl⟩ := hu
  rfl
theorem PS.drew {W : World} {B base bx bv bi bp : Nat} {lv : Value} {c : Nat} {ended : Bool} {pc hv : Value} {hl : Nat} (h : PS W B base bx bv bi bp lv c ended pc hv hl) : PS W.drew B base bx bv bi bp lv c ended pc hv hl := ⟨h.rx, h.rv, h.ri, h.rp, h.head, h.hle, h.ge, h.lt, h.ne⟩
theorem newsOf_len (n : Nat) (z : Nat → Int) : (newsOf n z).length = n * 1 := by simp [newsOf]
/-- The head's block is none of the elder ones. -/
theorem PS.far {W : World} {B base bx bv bi bp : Nat} {lv : Value} {c : Nat} {ended : Bool} {pc hv : Value} {hl : Nat} (h : PS W B base bx bv bi bp lv c ended pc hv hl) {k : Nat} (hk : k < base) : some k ≠ hv.ownBlock := fun e => by
  obtain ⟨ys, hy⟩ := h.head
  rcases hy.2 with ⟨rfl, _⟩ | ⟨g, cap, cur, rfl, e2, _⟩
  · cases e
  · simp [Value.ownBlock] at e
    omega
set_option maxRecDepth 100000 in
set_option maxHeartbeats 1000000 in
theorem fetch_any (B base bx bv bi bp : Nat) (la : Option Addr) (len c : Nat) (L : Nat → Nat) (A : Nat → Option Addr) (pc hv : Value) (hl : Nat) (hlen : len ≤ 65536) (hc : c ≤ len) (hL : ∀ i, i < len → L i ≤ 1048576) (W w0 : World) (hB : B = w0.heap.size) (hb0 : Below B w0 W) (hC : Cloned w0 la len L A) (h : PS W B base bx bv bi bp (.slice la len len) c false pc hv hl) :
    Calls Try.prog 20 #[.pointer (some ⟨bp, 0, none⟩)] W (FetchPost B base bx bv bi bp (.slice la len len) c pc len L A W) := by
  subst hB
  have hCW := hC.below hb0
  obtain ⟨g1, g2, g3, g4⟩ := h.ge
  obtain ⟨n1, n2, n3, n4, n5⟩ := h.ne
  have hla : c < len → ∀ b o, la = some ⟨b, o, none⟩ → b ≠ bi := fun q b o e => by
    obtain ⟨bL, e1, e2, _⟩ := hC.at_ c q
    have hl := block_lt_of_cell e2
    rw [e] at e1
    simp at e1
    simp only at hl
    omega
  have Hnx := hide (next_any bx bv bi len c la L A (by omega) n1 n3 W h.rx h.rv h.ri hla hCW)
  obtain ⟨a, hpa⟩ := pieceAt_len len L A c
  obtain ⟨c0, c1, c2, c3, c4, c5⟩ := h.cells
  have HP := hide h
  have hsl : lenAt len L c ≤ 1048576 := by unfold lenAt; split; exact hL c (by omega); omega
  have fin : ∀ hv' hl' (W' : World), PS W' w0.heap.size base bx bv bi bp (.slice la len len) (c + 1) (decide (lenAt len L c = 0)) pc hv' hl' → Below w0.heap.size W W' → FetchPost w0.heap.size base bx bv bi bp (.slice la len len) c pc len L A W (.returned (.slice a (lenAt len L c) (lenAt len L c))) W' := fun hv' hl' W' h1 h2 => ⟨hv', hl', by rw [hpa], h1, h2⟩
  have Hfin := hide fin
  rw [hpa] at Hnx
  have Hpa := hide hpa
  clear h fin hpa
  unfold fnv at c0
  generalize hsl2 : lenAt len L c = sl at *
  go_enter Try.func20, Try.ntmps20
  go_wp2_with fail
  refine (unhide Hnx).mono ?_
  rintro e w1 ⟨rfl, rfl⟩
  have HP1 := hide ((unhide HP).count (c + 1))
  have HB1 := hide ((Below.refl w0.heap.size W).setCell (p := ⟨bi, 0, none⟩) g3 (.int .i64 ((c + 1 : Nat) : Int)))
  generalize W.setCell ⟨bi, 0, none⟩ (.int .i64 ((c + 1 : Nat) : Int)) = w1 at *
  clear c0 c1 c2 c3 c4 c5 HP Hnx
  obtain ⟨c0, c1, c2, c3, c4, c5⟩ := (unhide HP1).cells
  have f1 := (unhide HP1).free 1
  have hq0 : ((sl : Int) == 0) = decide (sl = 0) := by by_cases e : sl = 0 <;> simp [e]
  go_upto_region 5 with fail
  refine wp_forget (fun w' => PS w' w0.heap.size base bx bv bi bp (.slice la len len) (c + 1) (decide (sl = 0)) pc hv hl ∧ Below w0.heap.size W w') ⟨(unhide HP1).setEnded _, (unhide HB1).setCell (p := ⟨bp, 1, none⟩) g4 _⟩ ?_
  rintro w2 ⟨hP2, hB2⟩
  have HP2 := hide hP2
  have HB2 := hide hB2
  obtain ⟨xs, hxs⟩ := hP2.head
  have hle := hP2.hle
  have Hx := hide hxs
  obtain ⟨ha, hcap, rfl⟩ : ∃ ha hcap, hv = .slice ha hl hcap := by
    rcases hxs.2 with ⟨rfl, rfl⟩ | ⟨g, cap, cur, rfl, _⟩
    · exact ⟨_, _, rfl⟩
    · exact ⟨_, _, rfl⟩
  clear hP2 hB2 HP1 HB1 c0 c1 c2 c3 c4 c5 f1 hq0 hxs
  obtain ⟨c0, c1, c2, c3, c4, c5⟩ := (unhide HP2).cells
  have f5 := (unhide HP2).free 5
  by_cases q : 0 < sl ∧ hl < 40
  · have hcl : c < len := by
      refine Nat.lt_of_not_le fun e => ?_
      unfold lenAt at hsl2
      rw [if_neg (by omega)] at hsl2
      omega
    obtain ⟨b, rfl, hbytes⟩ : ∃ b, a = some ⟨b, 0, none⟩ ∧ BytesAt w2 b sl := by
      have e1 := unhide Hpa
      unfold pieceAt at e1
      unfold lenAt at hsl2
      rw [if_pos hcl] at e1 hsl2
      simp only [Value.slice.injEq] at e1
      obtain ⟨bL, _, _, hh⟩ := hC.at_ c hcl
      obtain ⟨b, e2, e3⟩ := hh (by omega)
      rw [hsl2] at e3
      exact ⟨b, by rw [← e1.1, e2], e3.below (hb0.trans (unhide HB2))⟩
    obtain ⟨z, hz⟩ := Go.Deep.choose_lt hbytes
    have hbase := (unhide HP2).lt.2.2.2.2
    have Hz := hide hz
    have hbpl : bp < w2.heap.size := by have := (unhide HP2).lt; omega
    have hfar := (unhide HP2).far (unhide HP2).lt.2.2.2.1
    obtain ⟨ti, hti, hz0, hz1, hz2⟩ := info_parts Try.info5
    clear hz hbytes hcl hsl2 hC hCW hla hL
    by_cases q3 : sl ≤ 40 - hl
    · have q4 : (sl : Int) ≤ 40 - (hl : Int) := by omega
      have q5 : (0 : Int) < (sl : Int) := by omega
      go_upto_region 7 with fail
      go_region_law (refine step_append_lies _ (by rfl) _ _ _ (by rfl) base 5 ti (.int .u8 0) 1 1 Try.underlying37 hti hz0 hz1 hz2 rfl (by decide) (.slice ha hl hcap) hl xs (by rfl) (unhide Hx) ⟨b, 0, none⟩ sl sl (newsOf sl z) (by rfl) (newsOf_len _ _) (newsOf_at (fun j hj => unhide Hz j (by omega))) (newsOf_one _ _) (by omega) (by unfold maxLen; omega) (by omega) hbase _ rfl ?_
                     intro g cap w3 hown hgrow hat hlt3
                     have d5 : w3.cell? ⟨bp, 5, none⟩ = some (.slice ha hl hcap) := (hgrow.cell_far ⟨bp, 5, none⟩ hbpl hfar).trans c5
                     have e5 : w3.frozen? ⟨bp, 5, none⟩ = false := (World.frozen?_of_block (hgrow.block bp hbpl hfar)).trans f5
                     have HG := hide (And.intro hown hgrow)
                     clear hown hgrow hat hlt3)
      all_goals
        go_wp2_with fail
        go_ret
        obtain ⟨hown, hgrow⟩ := unhide HG
        obtain ⟨hps, hbl⟩ := (unhide HP2).drew.setHead hgrow hown (by omega)
        refine unhide Hfin _ _ _ hps ?_
        have hBb : w0.heap.size ≤ base := by have := (unhide HP2).lt; omega
        exact (((unhide HB2).trans ((Below.refl _ w2).drew)).trans (hbl.mono hBb)).setCell (p := ⟨bp, 5, none⟩) g4 _
    · obtain ⟨n, hn⟩ : ∃ n, 40 - hl = n := ⟨_, rfl⟩
      have hn' : 40 - (hl : Int) = (n : Int) := by omega
      have q4 : ¬ (sl : Int) ≤ (n : Int) := by omega
      have q5 : (0 : Int) < (n : Int) := by omega
      have q6 : (n : Int) ≤ (sl : Int) := by omega
      have q7 : (n : Int) < (sl : Int) := by omega
      go_upto_region 7 with fail
      go_region_law (refine step_append_lies _ (by rfl) _ _ _ (by rfl) base 5 ti (.int .u8 0) 1 1 Try.underlying37 hti hz0 hz1 hz2 rfl (by decide) (.slice ha hl hcap) hl xs (by rfl) (unhide Hx) ⟨b, 0, none⟩ n sl (newsOf n z) (by rfl) (newsOf_len _ _) (newsOf_at (fun j hj => unhide Hz j (by omega))) (newsOf_one _ _) (by omega) (by unfold maxLen; omega) (by omega) hbase _ rfl ?_
                     intro g cap w3 hown hgrow hat hlt3
                     have d5 : w3.cell? ⟨bp, 5, none⟩ = some (.slice ha hl hcap) := (hgrow.cell_far ⟨bp, 5, none⟩ hbpl hfar).trans c5
                     have e5 : w3.frozen? ⟨bp, 5, none⟩ = false := (World.frozen?_of_block (hgrow.block bp hbpl hfar)).trans f5
                     have HG := hide (And.intro hown hgrow)
                     clear hown hgrow hat hlt3)
      all_goals
        go_wp2_with fail
        go_ret
        obtain ⟨hown, hgrow⟩ := unhide HG
        obtain ⟨hps, hbl⟩ := (unhide HP2).drew.setHead hgrow hown (by omega)
        refine unhide Hfin _ _ _ hps ?_
        have hBb : w0.heap.size ≤ base := by have := (unhide HP2).lt; omega
        exact (((unhide HB2).trans ((Below.refl _ w2).drew)).trans (hbl.mono hBb)).setCell (p := ⟨bp, 5, none⟩) g4 _
  · have q' : ¬ (0 : Int) < min (sl : Int) (40 - (hl : Int)) := by omega
    go_wp2_with fail
    all_goals
      go_ret
      exact unhide Hfin _ _ _ (unhide HP2) (unhide HB2)
end Go.Proofs.Qxb6616348a
