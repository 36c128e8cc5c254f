/-
  THE LAW FnPiecesAskNextOnlyUntilEmpty (5): its walk.
-/
import Derived.Test.Qxb6616348aNp
import Derived.Laws.Pointers
namespace Go.Proofs.Qxb6616348a
open Go.RowKit
theorem eql33 (p : Option Addr) (w : World) : (binOp .eql 33 (.pointer p) (.pointer none)).run Try.prog w = .ok (.bool p.isNone) w := run_eql_pointer_nil (P := Try.prog) w 33 p (by rw [Program.pointee, Try.underlying33])
theorem eql34 (p : Option Addr) (w : World) : (binOp .eql 34 (.pointer p) (.pointer none)).run Try.prog w = .ok (.bool p.isNone) w := run_eql_pointer_nil (P := Try.prog) w 34 p (by rw [Program.pointee, Try.underlying34])
theorem PS.calls {W : World} {B base bx bv bi bp : Nat} {lv : Value} {c : Nat} {ended : Bool} {pc hv : Value} {hl : Nat} (h : PS W B base bx bv bi bp lv c ended pc hv hl) : W.cell? ⟨bi, 0, none⟩ = some (.int .i64 (c : Nat)) := by rw [cell_of_row _ _ _ _ _ _ h.ri]; rfl
theorem PS.drewN {W : World} {B base bx bv bi bp : Nat} {lv : Value} {c : Nat} {ended : Bool} {pc hv : Value} {hl : Nat} (h : PS W B base bx bv bi bp lv c ended pc hv hl) (n : Nat) : PS (W.drewN n) B base bx bv bi bp lv c ended pc hv hl := ⟨h.rx, h.rv, h.ri, h.rp, h.head, h.hle, h.ge, h.lt, h.ne⟩
theorem St.drewN {w0 : World} {base bx bv bi bp : Nat} {la : Option Addr} {len k : Nat} {L : Nat → Nat} {A : Nat → Option Addr} {t : Nat} {v : Value} {W : World} (h : St w0 base bx bv bi bp la len k L A t v W) (n : Nat) : St w0 base bx bv bi bp la len k L A t v (W.drewN n) := by
  obtain ⟨⟨pc, hv, hl, hp⟩, h2, h3⟩ := h
  exact ⟨⟨pc, hv, hl, hp.drewN n⟩, below_drewN h2 n, h3⟩
set_option maxRecDepth 100000 in
set_option maxHeartbeats 4000000 in
theorem law_main (m : Nat) (hm : m ≤ 65536) (a : Option Addr) (len cap : Nat) (A : Nat → Option Addr) (L C : Nat → Nat) (Z : Nat → Nat → Int) (hl : len ≤ 9223372036854775807) (ha : a = none → len = 0 ∧ cap = 0) (w : World) (h : Ins w a len A L C Z) :
    Calls Try.prog 5 #[.slice a len cap, .int .i64 m] w fun e w' => e = .returned (.bool true) ∧ Below w.heap.size w w' := by
  have Hby := hide (bytes_any m a len cap A L C Z hl w h)
  have Hbig := hide (fun h1 => tooBig_any a len cap A L C Z hl h1 w h)
  have Hcl := hide (fun h1 h2 => clone_any a len cap A L C Z h1 h2 ha w h)
  have q33 := eql33
  have q34 := eql34
  clear h ha
  go_enter Try.func5, Try.ntmps5
  go_wp2_with fail
  refine (unhide Hby).mono ?_
  rintro e w0 ⟨r, rfl, rfl, hby⟩
  cases r with
  | false =>
    go_wp2_with fail
    go_ret
    exact ⟨rfl, Below.refl _ _⟩
  | true =>
    have Hbg := hide (unhide Hbig (fun i hi => by have := hby rfl i hi; omega))
    clear Hbig hby
    go_wp2_with fail
    refine (unhide Hbg).mono ?_
    rintro e w1 ⟨r, rfl, rfl, hr⟩
    cases r with
    | true =>
      go_wp2_with fail
      go_ret
      exact ⟨rfl, Below.refl _ _⟩
    | false =>
      obtain ⟨hlen, hL⟩ := hr rfl
      have HL := hide hL
      have Hc := hide (unhide Hcl hlen hL)
      clear hr hL Hby Hbg Hcl
      go_wp2_with fail
      refine (unhide Hc).mono ?_
      rintro e W ⟨la, A', rfl, hC, hB⟩
      have HC := hide hC
      have HB := hide hB
      have Hfi := hide (first_any la len L A' hlen W hC)
      have Hfr := hide (zznew_any la len L A' hlen (unhide HL) W hC)
      clear hC hB Hc
      go_wp2_with fail
      refine (unhide Hfi).mono ?_
      rintro e w2 ⟨k, rfl, hk, rfl⟩
      have Hk := hide hk
      have hkl := hk.1
      clear hk Hfi
      go_wp2_with fail
      refine (unhide Hfr).mono ?_
      rintro e W2 ⟨bx, bv, bi, bp, rfl, hv, hl2, hP, hB2⟩
      obtain ⟨a0, ha0⟩ := pieceAt_len len L A' 0
      have hst : St w2 (bp + 1) bx bv bi bp la len k L A' 1 (pieceAt len L A' 0) W2 := by
        refine ⟨⟨pieceAt len L A' 0, hv, hl2, ?_⟩, hB2, (unhide Hk).last (Nat.zero_le _)⟩
        rw [show min 1 (k + 1) = 1 by omega]
        have := (unhide Hk).len (Nat.zero_le k)
        rw [this] at hP
        exact hP
      have Hf1 := hide (fields_any _ _ _ _ _ _ _ _ _ _ _ _ W2 hP)
      rw [ha0] at hst Hf1
      have HS := hide hst
      clear hst hP hB2 ha0 Hfr
      go_wp2_with fail
      refine (unhide Hf1).mono ?_
      rintro e W3 ⟨rfl, nq, rfl⟩
      have HS1 := hide ((unhide HS).drewN nq)
      clear HS Hf1
      go_wp2_with fail
      clear q33 q34
      go_loopw [8, 13] (fun lv j wr => ∃ (t : Nat) (x : Option Addr) (l c : Nat), 1 ≤ t ∧ t ≤ m + 1 ∧ j = .int .i64 t ∧ lv = .slice x l c ∧ Hid (St w2 (bp + 1) bx bv bi bp la len k L A' t (.slice x l c) wr)) (fun _ j _ => m + 1 - (intOf j).toNat)
      case atStart => exact ⟨1, _, _, _, Nat.le_refl _, by omega, rfl, rfl, unhide HS1⟩
      case round =>
        clear HS1
        obtain ⟨t, x, l, c, ht1, ht, rfl, rfl, HS⟩ := hrel
        by_cases hlt : t ≤ m
        · have ht' : (t : Int) ≤ (m : Int) := by omega
          have Hf := hide (zzfetch_any w2 (bp + 1) bx bv bi bp la len k L A' t _ hlen (unhide HL) (unhide Hk) (unhide HC) wr (unhide HS))
          go_wp2_with fail
          refine (unhide Hf).mono ?_
          rintro e W4 ⟨x', l', c', rfl, hS4⟩
          have HS4 := hide hS4
          clear hS4 Hf HS
          go_wp2_with fail
          go_roundw
          case rel => exact ⟨t + 1, x', l', c', by omega, by omega, by go_num, rfl, unhide HS4⟩
          case measure => simp [intOf]; omega
        · obtain rfl : t = m + 1 := by omega
          have ht' : ¬ ((m + 1 : Nat) : Int) ≤ (m : Int) := by omega
          obtain ⟨pc, hv3, hl3, hP3⟩ := (unhide HS).ps
          have Hf2 := fields_any _ _ _ _ _ _ _ _ _ _ _ _ wr hP3
          have hlast := (unhide HS).last
          rw [Nat.add_sub_cancel] at hlast
          have hCw := (unhide HC).below (unhide HS).bel
          have Hh := hide (fun (W5 : World) (hb5 : Below wr.heap.size wr W5) => handed_any la len k m L A' x l c (unhide HL) (unhide Hk) W5 (hCw.below hb5) hlast)
          have HBw := hide ((unhide HB).trans ((unhide HS).bel.mono (unhide HB).size))
          have cc := hP3.calls
          obtain ⟨want, cv, en, e1, e2, e3, e4, e5⟩ : ∃ (want cv : Nat) (en : Bool), min (m + 1) (k + 1) = cv ∧ decide (k < m + 1) = en ∧ cv = want + 1 ∧ (k < m → want = k) ∧ (¬ k < m → want = m) := by
            by_cases q : k < m
            · exact ⟨k, k + 1, _, by omega, rfl, rfl, fun _ => rfl, fun h => absurd q h⟩
            · exact ⟨m, m + 1, _, by omega, rfl, rfl, fun h => absurd h q, fun _ => rfl⟩
          rw [e1] at cc
          rw [e2] at Hf2
          have Hf2 := hide Hf2
          have He := hide e1
          subst e3
          clear hlast hCw hP3 e1 HS HC HB
          go_wp2_with fail
          refine (unhide Hf2).mono ?_
          rintro e W5 ⟨rfl, nq2, rfl⟩
          have cc5 : (wr.drewN nq2).cell? ⟨bi, 0, none⟩ = some (.int .i64 ((want + 1 : Nat) : Int)) := cc
          have Hh5 := hide (unhide Hh _ (below_drewN (Below.refl _ wr) nq2))
          have HB5 := hide (below_drewN (unhide HBw) nq2)
          generalize wr.drewN nq2 = w6 at *
          clear cc Hh HBw Hf2
          have bb1 : ((want : Int) + 1 == (want : Int) + 1) = true := by simp
          by_cases q : k < m
          · obtain rfl := e4 q
            have q' : (want : Int) < (m : Int) := by omega
            have q2 : (want : Int) ≤ (m : Int) := by omega
            obtain rfl : en = true := by rw [← e2]; simp; omega
            clear e2 e4 e5
            go_wp2_with fail
            refine (unhide Hh5).mono ?_
            rintro e W7 ⟨rfl, hb7⟩
            have HB7 := hide ((unhide HB5).trans (hb7.mono (unhide HB5).size))
            clear hb7
            go_wp2_with fail
            go_ret
            exact ⟨rfl, unhide HB7⟩
          · obtain rfl := e5 q
            have q' : ¬ (k : Int) < (want : Int) := by omega
            by_cases q3 : k ≤ want
            · have q2 : (k : Int) ≤ (want : Int) := by omega
              obtain rfl : en = true := by rw [← e2]; simp; omega
              clear e2 e4 e5
              go_wp2_with fail
              refine (unhide Hh5).mono ?_
              rintro e W7 ⟨rfl, hb7⟩
              have HB7 := hide ((unhide HB5).trans (hb7.mono (unhide HB5).size))
              clear hb7
              go_wp2_with fail
              go_ret
              exact ⟨rfl, unhide HB7⟩
            · have q2 : ¬ (k : Int) ≤ (want : Int) := by omega
              obtain rfl : en = false := by rw [← e2]; simp; omega
              clear e2 e4 e5
              go_wp2_with fail
              refine (unhide Hh5).mono ?_
              rintro e W7 ⟨rfl, hb7⟩
              have HB7 := hide ((unhide HB5).trans (hb7.mono (unhide HB5).size))
              clear hb7
              go_wp2_with fail
              go_ret
              exact ⟨rfl, unhide HB7⟩
end Go.Proofs.Qxb6616348a
