/-
  THE LAW FnFailMarkerDueAfterFailsAndClaim (3): its walk.
-/
import Derived.Test.Qxb6616364aZz
namespace Go.Proofs.Qxb6616364a
open Go.RowKit Go.MuLone
/-- The elements of a slice that came in: below its length the cells hold z. -/
def Elems (w : World) (a : Option Addr) (len : Nat) (z : Nat → Int) : Prop :=
  ∀ k, k < len → ∃ b off, a = some ⟨b, off, none⟩ ∧ b < w.heap.size ∧ w.cell? ⟨b, off + k, none⟩ = some (.int .i64 (z k))
theorem Elems.below {w W : World} {a : Option Addr} {len : Nat} {z : Nat → Int} (h : Elems w a len z) (hb : Below w.heap.size w W) {k : Nat} (hk : k < len) : ∃ b off, a = some ⟨b, off, none⟩ ∧ W.cell? ⟨b, off + k, none⟩ = some (.int .i64 (z k)) := by
  obtain ⟨b, off, e, hlt, hc⟩ := h k hk
  exact ⟨b, off, e, by rw [hb.cell (p := ⟨b, off + k, none⟩) hlt]; exact hc⟩
theorem ext_lt {P : Nat → Prop} {j : Nat} (h : ∀ i, i < j → P i) (hj : P j) : ∀ i, i < j + 1 → P i := fun i hi => by
  by_cases hn : i < j
  · exact h i hn
  · obtain rfl : i = j := by omega
    exact hj
/-- The last failure of the first k. -/
def lastOf (z : Nat → Int) : Nat → Int
  | 0 => 0
  | k + 1 => z k
theorem lastOf_in {z : Nat → Int} {k : Nat} (h : ∀ i, i < k → -2305843009213693952 ≤ z i ∧ z i ≤ 2305843009213693952) : -2305843009213693952 ≤ lastOf z k ∧ lastOf z k ≤ 2305843009213693952 := by
  cases k with
  | zero => simp [lastOf]
  | succ k => exact h k (by omega)
/-- What the law's end needs: the claim's answer, the due time, the base. -/
theorem end_plain (lm L tmo claim : Int) (n : Nat) :
    ∃ (spent dead nz : Bool) (base : Int), decide (lm ≤ (n : Int)) = spent ∧ (spent = true → decide (claim < L + tmo) = dead) ∧ (spent = false → dead = false) ∧ (claim != 0) = nz ∧
      (!(decide (lm ≤ (n : Int)) && decide (claim < dueAt tmo L 0))) = !dead ∧ dueAt tmo L (if lm ≤ (n : Int) ∧ ¬ claim < dueAt tmo L 0 then claim else 0) = base + tmo ∧ base = (if spent = true ∧ dead = false ∧ nz = true then claim else L) := by
  have hd : dueAt tmo L 0 = L + tmo := by simp [dueAt]
  rw [hd]
  by_cases q1 : lm ≤ (n : Int)
  · by_cases q2 : claim < L + tmo
    · exact ⟨true, true, _, L, by simp [q1], by simp [q2], by simp, rfl, by simp [q1, q2], by simp [dueAt, q2], by simp⟩
    · by_cases q3 : claim = 0
      · subst q3
        exact ⟨true, false, false, L, by simp [q1], by simp [q2], by simp, by simp, by simp [q2], by simp [dueAt], by simp⟩
      · exact ⟨true, false, true, claim, by simp [q1], by simp [q2], by simp, by simp [q3], by simp [q2], by simp [dueAt, q1, q2, q3], by simp⟩
  · exact ⟨false, false, _, L, by simp [q1], by simp, by simp, rfl, by simp [q1], by simp [dueAt, q1], by simp⟩
set_option maxRecDepth 100000 in
set_option maxHeartbeats 4000000 in
theorem law3_main (mf tmo claim : Int) (hmf : -9223372036854775808 ≤ mf ∧ mf ≤ 9223372036854775807) (ht : -2305843009213693952 ≤ tmo ∧ tmo ≤ 2305843009213693952) (hc : -2305843009213693952 ≤ claim ∧ claim ≤ 2305843009213693952) (a : Option Addr) (len cap : Nat) (hlen : len ≤ 4096) (z : Nat → Int) (w : World) (hz : Elems w a len z) :
    Calls Try.prog 3 #[.int .i64 mf, .int .i64 tmo, .slice a len cap, .int .i64 claim] w fun e w' => e = .returned (.bool true) ∧ Below w.heap.size w w' := by
  have Hz := hide hz
  have Hby := bytes_any mf tmo claim a len cap (by omega) w
  rw [decide_eq_true (show len ≤ 1048576 by omega)] at Hby
  have Hb := hide Hby
  have Ht1 := inTime_any tmo w
  rw [decide_eq_true ht] at Ht1
  have Hc1 := inTime_any claim w
  rw [decide_eq_true hc] at Hc1
  have Ht := hide Ht1
  have Hc := hide Hc1
  have Hin := hide (fun x w => inTime_any x w)
  have Hnew := hide (zznew_any mf tmo w)
  have Hmx := hide (fun w => max1_any mf w)
  have hlm : 1 ≤ lim mf ∧ lim mf ≤ 9223372036854775807 := by unfold lim; split <;> omega
  generalize lim mf = lm at *
  clear hz Hby Ht1 Hc1
  go_enter Try.func3, Try.ntmps3
  go_wp2_with fail
  refine (unhide Hb).mono ?_
  rintro e w0 ⟨rfl, rfl⟩
  go_wp2_with fail
  refine (unhide Ht).mono ?_
  rintro e _ ⟨rfl, rfl⟩
  go_wp2_with fail
  refine (unhide Hc).mono ?_
  rintro e w0 ⟨rfl, rfl⟩
  go_wp2_with fail
  clear Hb Ht Hc
  go_loop [9] (fun j => ∃ k : Nat, k ≤ len ∧ j = .int .i64 k ∧ Hid (∀ i, i < k → -2305843009213693952 ≤ z i ∧ z i ≤ 2305843009213693952)) (fun j => len - (intOf j).toNat)
  case atStart => exact ⟨0, Nat.zero_le _, rfl, fun i hi => by omega⟩
  case round =>
    obtain ⟨k, hk, rfl, HR⟩ := hrel
    by_cases hlt : k < len
    · obtain ⟨b, off, rfl, _, cz⟩ := unhide Hz k hlt
      have hk' : (k : Int) < (len : Int) := by omega
      go_wp2_with fail
      refine (unhide Hin _ _).mono ?_
      rintro e w0 ⟨rfl, rfl⟩
      by_cases q : -2305843009213693952 ≤ z k ∧ z k ≤ 2305843009213693952
      · rw [decide_eq_true q]
        go_wp2_with fail
        go_round
        case rel => exact ⟨k + 1, by omega, by go_num, ext_lt (unhide HR) q⟩
        case measure => simp [intOf]; omega
      · rw [decide_eq_false q]
        go_wp2_with fail
        go_ret
        exact ⟨rfl, Below.refl _ _⟩
    · obtain rfl : k = len := by omega
      go_wp2_with fail
      refine (unhide Hnew).mono ?_
      rintro e w1 ⟨rfl, hF, hB⟩
      have H0 := hide (And.intro hF hB)
      clear hF hB Hnew Hin
      go_wp2_with fail
      go_loopw [11] (fun j wr => ∃ i : Nat, i ≤ k ∧ j = .int .i64 i ∧ Hid (FM wr w0.heap.size lm tmo 0 (i : Int) (lastOf z i) 0 ∧ Below w0.heap.size w0 wr)) (fun j _ => k - (intOf j).toNat)
      case atStart => exact ⟨0, Nat.zero_le _, rfl, unhide H0⟩
      case round =>
        clear H0
        obtain ⟨i, hi, rfl, HL⟩ := hrel
        by_cases hlt : i < k
        · obtain ⟨b, off, rfl, cz⟩ := (unhide Hz).below (unhide HL).2 hlt
          have Hf := hide (zzfail_any w0.heap.size lm tmo i (lastOf z i) 0 (z i) (by omega) (by have := unhide HR i hlt; omega) wr (unhide HL).1)
          have hi' : (i : Int) < (k : Int) := by omega
          go_wp2_with fail
          refine (unhide Hf).mono ?_
          rintro e w2 ⟨rfl, hF, hB⟩
          have HL2 := hide (And.intro hF ((unhide HL).2.trans hB))
          clear hF hB Hf HL
          go_wp2_with fail
          go_roundw
          case rel =>
            refine ⟨i + 1, by omega, by go_num, ?_⟩
            have := unhide HL2
            rw [show ((i + 1 : Nat) : Int) = (i : Int) + 1 by omega]
            exact this
          case measure => simp [intOf]; omega
        · obtain rfl : i = k := by omega
          have hL := lastOf_in (unhide HR)
          obtain ⟨spent, dead, nz, base, e1, e2, e3, e4, e5, e6, e7⟩ := end_plain lm (lastOf z i) tmo claim i
          have hr2 : -2305843009213693952 ≤ (if lm ≤ (i : Int) ∧ ¬ claim < dueAt tmo (lastOf z i) 0 then claim else 0) ∧ (if lm ≤ (i : Int) ∧ ¬ claim < dueAt tmo (lastOf z i) 0 then claim else 0) ≤ 2305843009213693952 := by split <;> omega
          have Hcl := zzclaim_any w0.heap.size lm tmo i (lastOf z i) 0 claim (by omega) (by omega) (by omega) (by omega) wr (unhide HL).1
          have Hdu := fun W h => zzdue_any w0.heap.size lm tmo 0 i (lastOf z i) _ hL hr2 ht W h
          rw [e5] at Hcl
          rw [e6] at Hdu
          generalize (if lm ≤ (i : Int) ∧ ¬ claim < dueAt tmo (lastOf z i) 0 then claim else 0) = r2 at *
          have Hcl := hide Hcl
          have Hdu := hide Hdu
          have HB0 := hide (unhide HL).2
          obtain ⟨L, hLe⟩ : ∃ L, lastOf z i = L := ⟨_, rfl⟩
          have HLe := hide hLe
          rw [hLe] at hL e2 e7 Hcl Hdu
          clear e5 e6 hLe HL
          go_wp2_with fail
          refine (unhide Hcl).mono ?_
          rintro e w2 ⟨rfl, hF, hB⟩
          have HF2 := hide hF
          have HB2 := hide ((unhide HB0).trans hB)
          clear hF hB Hcl HB0
          go_wp2_with fail
          refine (unhide Hdu _ (unhide HF2)).mono ?_
          rintro e w3 ⟨rfl, hB⟩
          have HB3 := hide ((unhide HB2).trans (hB.mono (unhide HB2).size))
          clear hB HB2 HF2 Hdu
          have wL : IntKind.i64.wrap (L + tmo) = L + tmo := by rw [IntKind.wrap_i64]; omega
          have wC : IntKind.i64.wrap (claim + tmo) = claim + tmo := by rw [IntKind.wrap_i64]; omega
          have bL : (L + tmo == L + tmo) = true := by simp
          have bC : (claim + tmo == claim + tmo) = true := by simp
          have hlast : (i = 0 ∧ L = 0) ∨ ∃ m, i = m + 1 ∧ ∃ b off, a = some ⟨b, off, none⟩ ∧ w3.cell? ⟨b, off + m, none⟩ = some (.int .i64 L) := by
            have := unhide HLe
            cases i with
            | zero => exact .inl ⟨rfl, this.symm⟩
            | succ m =>
              obtain ⟨b, off, e, c⟩ := (unhide Hz).below (unhide HB3) (k := m) (by omega)
              have this : z m = L := this
              rw [this] at c
              exact .inr ⟨m, rfl, b, off, e, c⟩
          clear Hz HLe HR
          rcases hlast with ⟨rfl, rfl⟩ | ⟨m, rfl, b, off, rfl, cz⟩
          · rw [show ((0 : Nat) : Int) = 0 by rfl] at e1
            have hs : spent = false := by rw [← e1]; simp; omega
            subst hs
            obtain rfl := e3 rfl
            simp only [Bool.false_eq_true, false_and, if_false] at e7
            subst e7
            clear e2 e3
            go_wp2_with fail
            refine (unhide Hmx _).mono ?_
            rintro e w4 ⟨rfl, rfl⟩
            go_wp2_with fail
            go_ret
            exact ⟨rfl, unhide HB3⟩
          · have em : ((m + 1 : Nat) : Int) - 1 = (m : Int) := by omega
            have hm1 : (0 : Int) < (m : Int) + 1 := by omega
            rw [show ((m + 1 : Nat) : Int) = (m : Int) + 1 by omega] at e1 em
            cases spent with
            | false =>
              obtain rfl := e3 rfl
              simp only [Bool.false_eq_true, false_and, if_false] at e7
              subst e7
              clear e2 e3
              go_wp2_with fail
              refine (unhide Hmx _).mono ?_
              rintro e w4 ⟨rfl, rfl⟩
              go_wp2_with fail
              go_ret
              exact ⟨rfl, unhide HB3⟩
            | true =>
              have e2' := e2 rfl
              clear e2 e3
              cases dead with
              | true =>
                simp only [Bool.true_eq_false, false_and, and_false, if_false] at e7
                subst e7
                go_wp2_with fail
                refine (unhide Hmx _).mono ?_
                rintro e w4 ⟨rfl, rfl⟩
                go_wp2_with fail
                go_ret
                exact ⟨rfl, unhide HB3⟩
              | false =>
                cases nz with
                | true =>
                  simp only [true_and, if_true] at e7
                  subst e7
                  go_wp2_with fail
                  refine (unhide Hmx _).mono ?_
                  rintro e w4 ⟨rfl, rfl⟩
                  go_wp2_with fail
                  go_ret
                  exact ⟨rfl, unhide HB3⟩
                | false =>
                  simp only [Bool.false_eq_true, and_false, if_false] at e7
                  subst e7
                  go_wp2_with fail
                  refine (unhide Hmx _).mono ?_
                  rintro e w4 ⟨rfl, rfl⟩
                  go_wp2_with fail
                  go_ret
                  exact ⟨rfl, unhide HB3⟩
end Go.Proofs.Qxb6616364a
