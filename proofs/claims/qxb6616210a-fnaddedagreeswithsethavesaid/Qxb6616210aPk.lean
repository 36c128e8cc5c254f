/-
  A PICKER IN MEMORY; THE WALKS OF wants (45), added (39), announce (36), SetHave (21) AND THE GETTERS (22, 23, 24, 25, 27, 28).
-/
import Derived.Test.Qxb6616210aSet
import Derived.Test.Qxb6616210aNew
namespace Go.Proofs.Qxb6616210a
open Go.RowKit Go.Lib
attribute [local go_sem ↓] Go.wp_at_zero Go.wp_at_succ
theorem Kept.cellF {F : Nat → Prop} {w w' : World} (hk : Kept F w w') {p : Addr} {v : Value} (h : w.cell? p = some v) (hF : ¬ F p.block) : w'.cell? p = some v := by
  rw [← h]
  unfold World.cell?
  rw [hk.block p.block (block_lt_of_cell h) hF]
/-- The blocks of a picker. -/
structure Blk where
  (pk hb hfu br bR bp bo bq bg bs cap : Nat)
/-- A picker lies in memory: of its object the field 'have' (empty) and the rarity. -/
structure PkAt (w : World) (K : Blk) (n : Nat) (R : RS) : Prop where
  h0 : w.cell? ⟨K.pk, 4, none⟩ = some (.slice (some ⟨K.hb, 0, none⟩) (nbs n) (nbs n))
  h1 : w.cell? ⟨K.pk, 5, none⟩ = some (.int .i64 (n : Nat))
  h2 : w.cell? ⟨K.pk, 6, none⟩ = some (.int .i64 ((0 : Nat) : Int))
  h3 : w.cell? ⟨K.pk, 7, none⟩ = some (.slice (some ⟨K.hfu, 0, none⟩) (nfs n) (nfs n))
  hr : w.cell? ⟨K.pk, 19, none⟩ = some (.pointer (some ⟨K.br, 0, none⟩))
  bits : KRow .u8 5 w K.hb (nbs n) (fun _ => 0)
  rar : RarAt w K.br K.bR K.bp K.bo K.bq K.bg K.bs K.cap R
  inv : Inv R
  rn : R.n = n
  apart : ¬ (K.pk = K.br ∨ K.pk = K.bp ∨ K.pk = K.bo ∨ K.pk = K.bq ∨ K.pk = K.bg ∨ K.pk = K.bs) ∧ ¬ (K.hb = K.br ∨ K.hb = K.bp ∨ K.hb = K.bo ∨ K.hb = K.bq ∨ K.hb = K.bg ∨ K.hb = K.bs)
theorem PkAt.keep {w w' : World} {K : Blk} {n : Nat} {R : RS} (h : PkAt w K n R) {F : Nat → Prop} (hk : Kept F w w') (f1 : ¬ F K.pk) (f2 : ¬ F K.hb) (f3 : ¬ F K.br ∧ ¬ F K.bR ∧ ¬ F K.bp ∧ ¬ F K.bo ∧ ¬ F K.bq ∧ ¬ F K.bg ∧ ¬ F K.bs) : PkAt w' K n R :=
  ⟨hk.cellF h.h0 f1, hk.cellF h.h1 f1, hk.cellF h.h2 f1, hk.cellF h.h3 f1, hk.cellF h.hr f1, h.bits.keep hk f2, h.rar.keep hk f3, h.inv, h.rn, h.apart⟩
theorem PkAt.keepN {w w' : World} {K : Blk} {n : Nat} {R : RS} (h : PkAt w K n R) (hk : Kept (fun _ => False) w w') : PkAt w' K n R := h.keep hk id id ⟨id, id, id, id, id, id, id⟩
/-- 'Has' of the picker's field 'have': nothing is in it. -/
theorem khas_any (K : Blk) (n : Nat) (R : RS) (i : Nat) (hi : i < n) (hn : n ≤ 65536) (w : World) (h : PkAt w K n R) :
    Calls Try.prog 37 #[bf K.hb K.hfu (nbs n) (nfs n) n 0, .int .i64 i] w fun e w' => e = .returned (.bool false) ∧ Kept (fun _ => False) w w' := by
  have := has_any K.hb K.hfu (nbs n) (nfs n) n 0 i 0 hi hn (nbs_lt hi) w (h.bits.cell (nbs_lt hi)) h.bits.lt
  rw [hasB_zero] at this
  exact this
theorem lookup_none (mb : Nat) (i : Int) (w : World) (h : w.heap[mb]? = some (.map #[] 0)) : (Instr.lookup 38 (.map (some mb)) (.int .i64 i) false).run Try.prog w = .ok (.bool false) w := by
  have hg : (getObj mb).run Try.prog w = .ok (.map #[] 0) w := by simp [getObj, Sem.run, h]
  have hk : ∀ e, (Instr.checkKey e 10000 3 (.int .i64 i)).run Try.prog w = .ok () w := by
    intro e
    rw [show (10000 : Nat) = 9999 + 1 from rfl, Instr.checkKey]
    simp [go_sem]
  have hf : (Instr.findKey 3 (.int .i64 i) []).run Try.prog w = .ok none w := by
    simp [Instr.findKey, Instr.findNow, go_sem]
  unfold Instr.lookup
  simp [go_sem]
  rw [hg]
  simp [go_sem, hk, hf]

set_option maxRecDepth 100000 in
set_option maxHeartbeats 1000000 in
theorem wants_any (K : Blk) (b bb bfu mb n : Nat) (R : RS) (H : Nat → Bool) (c wt i : Nat) (hi : i < n) (hn : n ≤ 65536) (hH : H i = true) (w : World) (hp : PkAt w K n R) (h : PeerAt w b bb bfu mb n H c wt) :
    Calls Try.prog 45 #[.pointer (some ⟨K.pk, 0, none⟩), .pointer (some ⟨b, 0, none⟩), .int .i64 i] w fun e w' => e = .returned (.bool true) ∧ Kept (fun _ => False) w w' := by
  obtain ⟨c0, c1, c2, c3⟩ := h.bf
  have c4 := h.cell4
  have p0 := hp.h0
  have p1 := hp.h1
  have p2 := hp.h2
  have p3 := hp.h3
  have Hh := hide (fun w h => phas_any b bb bfu mb n H c wt i hi hn w h)
  rw [hH] at Hh
  have Hk := hide (fun w h => khas_any K n R i hi hn w h)
  unfold bf at Hh Hk
  have HP := hide h
  have HK := hide hp
  clear h hp
  go_enter Try.func45, Try.ntmps45
  go_wp2_with fail
  refine (unhide Hh _ (unhide HP)).mono ?_
  rintro e w1 ⟨rfl, hk1⟩
  have HP1 := hide ((unhide HP).keepN hk1)
  have HK1 := hide ((unhide HK).keepN hk1)
  have HE1 := hide hk1
  clear c0 c1 c2 c3 c4 p0 p1 p2 p3 hk1
  have p0 := (unhide HK1).h0
  have p1 := (unhide HK1).h1
  have p2 := (unhide HK1).h2
  have p3 := (unhide HK1).h3
  go_wp2_with fail
  refine (unhide Hk _ (unhide HK1)).mono ?_
  rintro e w2 ⟨rfl, hk2⟩
  have HP2 := hide ((unhide HP1).keepN hk2)
  have HE2 := hide ((unhide HE1).trans hk2 (fun _ _ h => h))
  clear p0 p1 p2 p3 hk2
  have c4 := (unhide HP2).cell4
  have hlk := lookup_none mb i w2 (unhide HP2).ban
  go_wp2_with fail
  go_ret
  exact ⟨rfl, unhide HE2⟩

/-- The blocks of a picker that 'add' writes. -/
def Blk.wr (K : Blk) (k : Nat) : Prop := k = K.br ∨ k = K.bp ∨ k = K.bo ∨ k = K.bq ∨ k = K.bg ∨ k = K.bs
/-- The picker's blocks and the peer's lie apart. -/
def Far (K : Blk) (b bb bfu mb : Nat) : Prop := ¬ K.wr b ∧ ¬ K.wr bb ∧ ¬ K.wr bfu ∧ ¬ K.wr mb ∧ ∀ k, k = b ∨ k = bb ∨ k = bfu → ¬ K.wr k ∧ k ≠ K.pk ∧ k ≠ K.hb ∧ k ≠ K.bR
def AddedPost (K : Blk) (b bb bfu mb n : Nat) (R : RS) (H : Nat → Bool) (c wt i : Nat) (w w' : World) : Prop :=
  ∃ v S' bs' cap', Pcg.Rolls R.S (room R i R.S) v S' ∧ (bs' = K.bs ∨ w.heap.size ≤ bs') ∧ PkAt w' { K with bs := bs', cap := cap' } n (addR R i v S') ∧ PeerAt w' b bb bfu mb n H c (wt + 1) ∧ Kept (fun k => K.wr k ∨ k = b ∨ k = bb ∨ k = bfu) w w'
theorem PkAt.added {w w' : World} {K : Blk} {n : Nat} {R : RS} (h : PkAt w K n R) {i v S' bs' cap' : Nat} (hi : i < n) (hR : Pcg.Rolls R.S (room R i R.S) v S') (hr : RarAt w' K.br K.bR K.bp K.bo K.bq K.bg bs' cap' (addR R i v S')) (hbs : bs' = K.bs ∨ w.heap.size ≤ bs') (hk : Kept K.wr w w') :
    PkAt w' { K with bs := bs', cap := cap' } n (addR R i v S') := by
  obtain ⟨f1, f2⟩ := h.apart
  have hiR : i < R.n := by rw [h.rn]; exact hi
  have hv := hR.lt (room_pos h.inv hiR R.S).1
  have l1 := block_lt_of_cell h.h0
  have l2 := h.bits.lt
  refine ⟨hk.cellF h.h0 f1, hk.cellF h.h1 f1, hk.cellF h.h2 f1, hk.cellF h.h3 f1, hk.cellF h.hr f1, h.bits.keep hk f2, hr, addR_inv h.inv hiR hv, h.rn, ?_, ?_⟩
  · rintro (e | e | e | e | e | e)
    · exact f1 (.inl e)
    · exact f1 (.inr (.inl e))
    · exact f1 (.inr (.inr (.inl e)))
    · exact f1 (.inr (.inr (.inr (.inl e))))
    · exact f1 (.inr (.inr (.inr (.inr (.inl e)))))
    · rcases hbs with e2 | e2
      · exact f1 (.inr (.inr (.inr (.inr (.inr (Eq.trans e e2))))))
      · have e : K.pk = bs' := e
        simp only at l1
        omega
  · rintro (e | e | e | e | e | e)
    · exact f2 (.inl e)
    · exact f2 (.inr (.inl e))
    · exact f2 (.inr (.inr (.inl e)))
    · exact f2 (.inr (.inr (.inr (.inl e))))
    · exact f2 (.inr (.inr (.inr (.inr (.inl e)))))
    · rcases hbs with e2 | e2
      · exact f2 (.inr (.inr (.inr (.inr (.inr (Eq.trans e e2))))))
      · have e : K.hb = bs' := e
        omega
set_option maxRecDepth 100000 in
set_option maxHeartbeats 1000000 in
theorem added_any (K : Blk) (b bb bfu mb n : Nat) (R : RS) (H : Nat → Bool) (c wt i : Nat) (hi : i < n) (hn : n ≤ 65536) (hlen : R.len < 1099511627776) (hwt : wt < 4611686018427387904) (hH : H i = true) (hfar : Far K b bb bfu mb) (w : World) (hp : PkAt w K n R) (h : PeerAt w b bb bfu mb n H c wt) :
    Calls Try.prog 39 #[.pointer (some ⟨K.pk, 0, none⟩), .pointer (some ⟨b, 0, none⟩), .int .i64 i] w fun e w' => e = .returned (.tuple #[]) ∧ AddedPost K b bb bfu mb n R H c wt i w w' := by
  have p4 := hp.hr
  have Hadd := hide (add_any K.br K.bR K.bp K.bo K.bq K.bg K.bs K.cap R hp.inv (by rw [hp.rn]; omega) hlen i (by rw [hp.rn]; exact hi) w hp.rar)
  have HP := hide h
  have HK := hide hp
  obtain ⟨a1, a2, a3, a4, a5⟩ := hfar
  have HA := hide a5
  clear h hp a5
  go_enter Try.func39, Try.ntmps39
  go_wp2_with fail
  refine (unhide Hadd).mono ?_
  rintro e w1 ⟨rfl, v, S', bs', cap', hR, hr, hbs, hk⟩
  have hPk := (unhide HK).added hi hR hr hbs hk
  have hPe := (unhide HP).keep hk a1 a2 a3 a4
  have Hw := hide (wants_any { K with bs := bs', cap := cap' } b bb bfu mb n (addR R i v S') H c wt i hi hn hH w1 hPk hPe)
  have HP1 := hide hPe
  have HK1 := hide hPk
  have HR := hide hR
  have HB := hide hbs
  have Hk := hide hk
  clear hPk hPe hR hr hbs hk p4 Hadd a1 a2 a3 a4
  go_wp2_with fail
  refine (unhide Hw).mono ?_
  rintro e w2 ⟨rfl, hk2⟩
  have HP2 := hide ((unhide HP1).keepN hk2)
  have HK2 := hide ((unhide HK1).keepN hk2)
  have Hk2 := hide ((unhide Hk).trans hk2 (fun _ _ h => h.elim))
  have c6 := (unhide HP2).cell6
  have f6 := (unhide HP2).free 6
  clear hk2 Hw
  go_wp2_with fail
  rw [show ((wt : Int) + 1) = ((wt + 1 : Nat) : Int) by omega]
  go_end0
  have hK := Kept.cell1 (w := w2) ⟨b, 6, none⟩ (.int .i64 ((wt + 1 : Nat) : Int))
  obtain ⟨q1, q2, q3, q4⟩ := unhide HA b (.inl rfl)
  refine ⟨rfl, v, S', bs', cap', unhide HR, unhide HB, ?_, (unhide HP2).setWanted (wt + 1), ?_⟩
  · have hbb : b < w.heap.size := (unhide HP).lt.1
    refine (unhide HK2).keep hK (fun e => q2 e.symm) (fun e => q3 e.symm) ⟨fun e => q1 (.inl e.symm), fun e => q4 e.symm, fun e => q1 (.inr (.inl e.symm)), fun e => q1 (.inr (.inr (.inl e.symm))), fun e => q1 (.inr (.inr (.inr (.inl e.symm)))), fun e => q1 (.inr (.inr (.inr (.inr (.inl e.symm))))), fun e => ?_⟩
    rcases unhide HB with e2 | e2
    · exact q1 (.inr (.inr (.inr (.inr (.inr (Eq.trans e.symm e2))))))
    · have e : bs' = b := e
      omega
  · exact Kept.setCell (F := fun k => K.wr k ∨ k = b ∨ k = bb ∨ k = bfu) ((unhide Hk2).mono (fun _ _ h => .inl h)) (fun _ => .inr (.inl rfl)) _

set_option maxRecDepth 100000 in
theorem zzadded_any (K : Blk) (b bb bfu mb n : Nat) (R : RS) (H : Nat → Bool) (c wt i : Nat) (hi : i < n) (hn : n ≤ 65536) (hlen : R.len < 1099511627776) (hwt : wt < 4611686018427387904) (hH : H i = true) (hfar : Far K b bb bfu mb) (w : World) (hp : PkAt w K n R) (h : PeerAt w b bb bfu mb n H c wt) :
    Calls Try.prog 28 #[.pointer (some ⟨K.pk, 0, none⟩), .pointer (some ⟨b, 0, none⟩), .int .i64 i] w fun e w' => e = .returned (.tuple #[]) ∧ AddedPost K b bb bfu mb n R H c wt i w w' := by
  have Ha := hide (added_any K b bb bfu mb n R H c wt i hi hn hlen hwt hH hfar w hp h)
  clear hp h
  go_enter Try.func28, Try.ntmps28
  go_wp2_with fail
  refine (unhide Ha).mono ?_
  rintro e w1 ⟨rfl, h1⟩
  have H1 := hide h1
  clear h1
  go_wp2_with fail
  go_end0
  exact ⟨rfl, unhide H1⟩
set_option maxRecDepth 100000 in
theorem zzset_any (b bb bfu mb n : Nat) (H : Nat → Bool) (c wt i : Nat) (hi : i < n) (hn : n ≤ 65536) (hc : c < 4611686018427387904) (hH : H i = false) (w : World) (h : PeerAt w b bb bfu mb n H c wt) :
    Calls Try.prog 27 #[.pointer (some ⟨b, 0, none⟩), .int .i64 i] w (SetPost b bb bfu mb n H c wt i w) := by
  have Ha := hide (set_any b bb bfu mb n H c wt i hi hn hc hH w h)
  have HP := hide h
  clear h
  go_enter Try.func27, Try.ntmps27
  go_wp2_with fail
  refine (unhide Ha).mono ?_
  rintro e w1 ⟨rfl, h1⟩
  have H1 := hide h1
  clear h1
  go_wp2_with fail
  go_end0
  exact ⟨rfl, unhide H1⟩
set_option maxRecDepth 100000 in
theorem zzwanted_any (b bb bfu mb n : Nat) (H : Nat → Bool) (c wt : Nat) (w : World) (h : PeerAt w b bb bfu mb n H c wt) :
    Calls Try.prog 22 #[.pointer (some ⟨b, 0, none⟩)] w fun e w' => e = .returned (.int .i64 wt) ∧ w' = w := by
  have c6 := h.cell6
  clear h
  go_enter Try.func22, Try.ntmps22
  go_wp2_with fail
  go_ret
  exact ⟨rfl, rfl⟩
set_option maxRecDepth 100000 in
theorem interesting_any (v : Value) (b bb bfu mb n : Nat) (H : Nat → Bool) (c wt : Nat) (w : World) (h : PeerAt w b bb bfu mb n H c wt) :
    Calls Try.prog 23 #[v, .pointer (some ⟨b, 0, none⟩)] w fun e w' => e = .returned (.bool (decide (0 < wt))) ∧ w' = w := by
  have c6 := h.cell6
  clear h
  by_cases hz : 0 < wt
  · have hz' : (0 : Int) < (wt : Int) := by omega
    go_enter Try.func23, Try.ntmps23
    go_wp2_with fail
    go_ret
    exact ⟨by simp [hz], rfl⟩
  · have hz' : ¬ (0 : Int) < (wt : Int) := by omega
    go_enter Try.func23, Try.ntmps23
    go_wp2_with fail
    go_ret
    exact ⟨by simp, rfl⟩
set_option maxRecDepth 100000 in
theorem zzrarity_any (K : Blk) (n : Nat) (R : RS) (w : World) (h : PkAt w K n R) :
    Calls Try.prog 25 #[.pointer (some ⟨K.pk, 0, none⟩)] w fun e w' => e = .returned (.pointer (some ⟨K.br, 0, none⟩)) ∧ w' = w := by
  have c6 := h.hr
  clear h
  go_enter Try.func25, Try.ntmps25
  go_wp2_with fail
  go_ret
  exact ⟨rfl, rfl⟩
set_option maxRecDepth 100000 in
theorem zzhas_any (b bb bfu mb n : Nat) (H : Nat → Bool) (c wt i : Nat) (hi : i < n) (hn : n ≤ 65536) (w : World) (h : PeerAt w b bb bfu mb n H c wt) :
    Calls Try.prog 24 #[.pointer (some ⟨b, 0, none⟩), .int .i64 i] w fun e w' => e = .returned (.bool (H i)) ∧ Kept (fun _ => False) w w' := by
  obtain ⟨c0, c1, c2, c3⟩ := h.bf
  have Hh := hide (phas_any b bb bfu mb n H c wt i hi hn w h)
  unfold bf at Hh
  clear h
  go_enter Try.func24, Try.ntmps24
  go_wp2_with fail
  refine (unhide Hh).mono ?_
  rintro e w1 ⟨rfl, hk1⟩
  have H1 := hide hk1
  clear hk1 c0 c1 c2 c3
  go_wp2_with fail
  go_ret
  exact ⟨rfl, unhide H1⟩
def AnnPost (K : Blk) (b bb bfu mb n : Nat) (R : RS) (H : Nat → Bool) (c i : Nat) (w : World) (e : Ending) (w' : World) : Prop :=
  (H i = true ∧ e = .returned (.bool false) ∧ Kept (fun _ => False) w w') ∨ (H i = false ∧ e = .returned (.bool true) ∧ AddedPost K b bb bfu mb n R (bupd H i true) (c + 1) c i w w')
theorem Far.set {K : Blk} {b bb bfu mb : Nat} (hf : Far K b bb bfu mb) {w w' : World} {n : Nat} {R : RS} (h : PkAt w K n R) (hk : Kept (fun k => k = b ∨ k = bb ∨ k = bfu) w w') : PkAt w' K n R := by
  obtain ⟨_, _, _, _, f⟩ := hf
  exact h.keep hk (fun e => (f _ e).2.1 rfl) (fun e => (f _ e).2.2.1 rfl) ⟨fun e => (f _ e).1 (.inl rfl), fun e => (f _ e).2.2.2 rfl, fun e => (f _ e).1 (.inr (.inl rfl)), fun e => (f _ e).1 (.inr (.inr (.inl rfl))), fun e => (f _ e).1 (.inr (.inr (.inr (.inl rfl)))), fun e => (f _ e).1 (.inr (.inr (.inr (.inr (.inl rfl))))), fun e => (f _ e).1 (.inr (.inr (.inr (.inr (.inr rfl)))))⟩
theorem AddedPost.behind {K : Blk} {b bb bfu mb n : Nat} {R : RS} {H : Nat → Bool} {c wt i : Nat} {w0 w w' : World} (h : AddedPost K b bb bfu mb n R H c wt i w w') (hk : Kept (fun k => k = b ∨ k = bb ∨ k = bfu) w0 w) : AddedPost K b bb bfu mb n R H c wt i w0 w' := by
  obtain ⟨v, S', bs', cap', h1, h2, h3, h4, h5⟩ := h
  refine ⟨v, S', bs', cap', h1, ?_, h3, h4, (hk.mono (fun _ _ h => .inr h)).trans h5 (fun _ _ h => h)⟩
  have := hk.size
  omega
set_option maxRecDepth 100000 in
set_option maxHeartbeats 1000000 in
theorem announce_any (K : Blk) (b bb bfu mb n : Nat) (R : RS) (H : Nat → Bool) (c i : Nat) (hi : i < n) (hn : n ≤ 65536) (hlen : R.len < 1099511627776) (hc : c < 4611686018427387904) (hfar : Far K b bb bfu mb) (w : World) (hp : PkAt w K n R) (h : PeerAt w b bb bfu mb n H c c) :
    Calls Try.prog 36 #[.pointer (some ⟨K.pk, 0, none⟩), .pointer (some ⟨b, 0, none⟩), .int .i64 i] w (AnnPost K b bb bfu mb n R H c i w) := by
  obtain ⟨c0, c1, c2, c3⟩ := h.bf
  have Hh := hide (phas_any b bb bfu mb n H c c i hi hn w h)
  unfold bf at Hh
  have HP := hide h
  have HK := hide hp
  have HF := hide hfar
  clear h hp hfar
  by_cases hH : H i = true
  · have HH := hide hH
    rw [hH] at Hh
    clear hH
    go_enter Try.func36, Try.ntmps36
    go_wp2_with fail
    refine (unhide Hh).mono ?_
    rintro e w1 ⟨rfl, hk1⟩
    have H1 := hide hk1
    clear hk1 c0 c1 c2 c3
    go_wp2_with fail
    go_ret
    exact .inl ⟨unhide HH, rfl, unhide H1⟩
  · have hH' : H i = false := by simpa using hH
    have HH := hide hH'
    rw [hH'] at Hh
    clear hH hH'
    go_enter Try.func36, Try.ntmps36
    go_wp2_with fail
    refine (unhide Hh).mono ?_
    rintro e w1 ⟨rfl, hk1⟩
    have hP1 := (unhide HP).keepN hk1
    have HK1 := hide ((unhide HK).keepN hk1)
    have H1 := hide hk1
    have Hset := hide (set_any b bb bfu mb n H c c i hi hn hc (unhide HH) w1 hP1)
    clear hk1 c0 c1 c2 c3 hP1
    go_wp2_with fail
    refine (unhide Hset).mono ?_
    rintro e w2 ⟨rfl, hP2, hk2⟩
    have hK2 := (unhide HF).set (unhide HK1) hk2
    have Hadd := hide (added_any K b bb bfu mb n R (bupd H i true) (c + 1) c i hi hn hlen hc (bupd_same _ _ _) (unhide HF) w2 hK2 hP2)
    have H2 := hide (((unhide H1).mono (G := fun k => k = b ∨ k = bb ∨ k = bfu) (fun _ _ h => h.elim)).trans hk2 (fun _ _ h => h))
    clear hP2 hk2 hK2 Hset HK1
    go_wp2_with fail
    refine (unhide Hadd).mono ?_
    rintro e w3 ⟨rfl, h3⟩
    have H3 := hide (h3.behind (unhide H2))
    clear h3 Hadd
    go_wp2_with fail
    go_ret
    exact .inr ⟨unhide HH, rfl, unhide H3⟩
set_option maxRecDepth 100000 in
theorem setHave_any (K : Blk) (b bb bfu mb n : Nat) (R : RS) (H : Nat → Bool) (c i : Nat) (hi : i < n) (hn : n ≤ 65536) (hlen : R.len < 1099511627776) (hc : c < 4611686018427387904) (hfar : Far K b bb bfu mb) (w : World) (hp : PkAt w K n R) (h : PeerAt w b bb bfu mb n H c c) :
    Calls Try.prog 21 #[.pointer (some ⟨K.pk, 0, none⟩), .pointer (some ⟨b, 0, none⟩), .int .i64 i] w fun e w' => ∃ r, e = .returned (.bool r) ∧ AnnPost K b bb bfu mb n R H c i w (.returned (.bool r)) w' := by
  have Ha := hide (announce_any K b bb bfu mb n R H c i hi hn hlen hc hfar w hp h)
  clear hp h
  go_enter Try.func21, Try.ntmps21
  go_wp2_with fail
  refine (unhide Ha).mono ?_
  intro e w1 h1
  obtain ⟨r, rfl⟩ : ∃ r, e = .returned (.bool r) := by
    rcases h1 with ⟨_, h, _⟩ | ⟨_, h, _⟩
    · exact ⟨_, h⟩
    · exact ⟨_, h⟩
  have H1 := hide h1
  clear h1
  go_wp2_with fail
  go_ret
  exact ⟨r, rfl, unhide H1⟩
end Go.Proofs.Qxb6616210a
