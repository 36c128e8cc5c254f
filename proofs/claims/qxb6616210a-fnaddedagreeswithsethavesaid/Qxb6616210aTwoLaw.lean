/-
  THE LAW FnAddedAgreesWithSetHave (7): its walk.
-/
import Derived.Test.Qxb6616210aTwo
import Derived.Deep.Cut
import Derived.Deep.RegionHeld3
namespace Go.Proofs.Qxb6616210a
open Go.RowKit Go.Lib
def L7St (w0 : World) (n m i pa pb bA bB bS bD bC : Nat) (W : World) : Prop := ∃ KA KB col gA gB fA fB R H dist seen count, KA.pk = pa ∧ KB.pk = pb ∧ L7 w0 W n m i KA KB bA bB bS bD bC col gA gB fA fB R H dist seen count
section
variable {w0 W W' : World} {n m i bA bB bS bD bC v d : Nat} {KA KB : Blk} {col : Nat → Nat} {gA gB : Nat → Option Addr} {fA fB : Fam} {R : RS} {H : Nat → Nat → Bool} {dist : Nat → Nat} {seen : Nat → Bool} {count : Nat → Nat}
theorem T7.mk (hv : v < m) (h : L7 w0 W n m i KA KB bA bB bS bD bC col gA gB fA fB R H dist seen count) : W.cell? ⟨bA, v, none⟩ = some (.pointer (some ⟨fA.b v, 0, none⟩)) ∧ W.cell? ⟨bB, v, none⟩ = some (.pointer (some ⟨fB.b v, 0, none⟩)) ∧ W.cell? ⟨bD, v, none⟩ = some (.int .i64 (dist v : Nat)) ∧ Hid (L7 w0 W n m i KA KB bA bB bS bD bC col gA gB fA fB R H dist seen count) :=
  ⟨by rw [h.one.side.prow.cell hv, h.one.side.ptr v hv], by rw [h.two.prow.cell hv, h.two.ptr v hv], h.one.dr.cell hv, h⟩
theorem T7.keep (h : W.cell? ⟨bA, v, none⟩ = some (.pointer (some ⟨fA.b v, 0, none⟩)) ∧ W.cell? ⟨bB, v, none⟩ = some (.pointer (some ⟨fB.b v, 0, none⟩)) ∧ W.cell? ⟨bD, v, none⟩ = some (.int .i64 (d : Nat)) ∧ Hid (L7 w0 W n m i KA KB bA bB bS bD bC col gA gB fA fB R H dist seen count)) (hk : Kept (fun _ => False) W W') :
    W'.cell? ⟨bA, v, none⟩ = some (.pointer (some ⟨fA.b v, 0, none⟩)) ∧ W'.cell? ⟨bB, v, none⟩ = some (.pointer (some ⟨fB.b v, 0, none⟩)) ∧ W'.cell? ⟨bD, v, none⟩ = some (.int .i64 (d : Nat)) ∧ Hid (L7 w0 W' n m i KA KB bA bB bS bD bC col gA gB fA fB R H dist seen count) :=
  ⟨hk.cellN h.1, hk.cellN h.2.1, hk.cellN h.2.2.1, (unhide h.2.2.2).same hk (Nat.le_refl _)⟩
theorem T7.wantedA (hv : v < m) (hd : dist v = d) (h : W.cell? ⟨bA, v, none⟩ = some (.pointer (some ⟨fA.b v, 0, none⟩)) ∧ W.cell? ⟨bB, v, none⟩ = some (.pointer (some ⟨fB.b v, 0, none⟩)) ∧ W.cell? ⟨bD, v, none⟩ = some (.int .i64 (d : Nat)) ∧ Hid (L7 w0 W n m i KA KB bA bB bS bD bC col gA gB fA fB R H dist seen count)) :
    Calls Try.prog 22 #[.pointer (some ⟨fA.b v, 0, none⟩)] W fun e w' => e = .returned (.int .i64 d) ∧ w' = W := by
  have := zzwanted_any _ _ _ _ _ _ _ _ W ((unhide h.2.2.2).one.side.peer v hv)
  rw [hd] at this
  exact this
theorem T7.wantedB (hv : v < m) (hd : dist v = d) (h : W.cell? ⟨bA, v, none⟩ = some (.pointer (some ⟨fA.b v, 0, none⟩)) ∧ W.cell? ⟨bB, v, none⟩ = some (.pointer (some ⟨fB.b v, 0, none⟩)) ∧ W.cell? ⟨bD, v, none⟩ = some (.int .i64 (d : Nat)) ∧ Hid (L7 w0 W n m i KA KB bA bB bS bD bC col gA gB fA fB R H dist seen count)) :
    Calls Try.prog 22 #[.pointer (some ⟨fB.b v, 0, none⟩)] W fun e w' => e = .returned (.int .i64 d) ∧ w' = W := by
  have := zzwanted_any _ _ _ _ _ _ _ _ W ((unhide h.2.2.2).two.peer v hv)
  rw [hd] at this
  exact this
theorem L7.get (h : L7 w0 W n m i KA KB bA bB bS bD bC col gA gB fA fB R H dist seen count) :
    (Calls Try.prog 25 #[.pointer (some ⟨KA.pk, 0, none⟩)] W fun e w' => e = .returned (.pointer (some ⟨KA.br, 0, none⟩)) ∧ w' = W) ∧
    (Calls Try.prog 25 #[.pointer (some ⟨KB.pk, 0, none⟩)] W fun e w' => e = .returned (.pointer (some ⟨KB.br, 0, none⟩)) ∧ w' = W) ∧
    (Calls Try.prog 13 #[.pointer (some ⟨KA.br, 0, none⟩)] W fun e w' => e = .returned (.slice (some ⟨KA.bo, 0, none⟩) n n) ∧ w' = W) ∧
    (Calls Try.prog 13 #[.pointer (some ⟨KB.br, 0, none⟩)] W fun e w' => e = .returned (.slice (some ⟨KB.bo, 0, none⟩) n n) ∧ w' = W) ∧
    (Calls Try.prog 14 #[.pointer (some ⟨KA.br, 0, none⟩)] W fun e w' => e = .returned (.slice (some ⟨KA.bq, 0, none⟩) n n) ∧ w' = W) ∧
    (Calls Try.prog 14 #[.pointer (some ⟨KB.br, 0, none⟩)] W fun e w' => e = .returned (.slice (some ⟨KB.bq, 0, none⟩) n n) ∧ w' = W) ∧
    (Calls Try.prog 11 #[.pointer (some ⟨KA.br, 0, none⟩)] W fun e w' => e = .returned (.slice (some ⟨KA.bg, 0, none⟩) n n) ∧ w' = W) ∧
    (Calls Try.prog 11 #[.pointer (some ⟨KB.br, 0, none⟩)] W fun e w' => e = .returned (.slice (some ⟨KB.bg, 0, none⟩) n n) ∧ w' = W) ∧
    (Calls Try.prog 15 #[.pointer (some ⟨KA.br, 0, none⟩)] W fun e w' => e = .returned (.slice (some ⟨KA.bs, 0, none⟩) R.len KA.cap) ∧ w' = W) ∧
    (Calls Try.prog 15 #[.pointer (some ⟨KB.br, 0, none⟩)] W fun e w' => e = .returned (.slice (some ⟨KB.bs, 0, none⟩) R.len KB.cap) ∧ w' = W) := by
  have rn := h.one.side.pk.rn
  have a := h.one.side.pk.rar
  have b := h.two.pk.rar
  refine ⟨zzrarity_any KA n R W h.one.side.pk, zzrarity_any KB n R W h.two.pk, ?_, ?_, ?_, ?_, ?_, ?_, zzstart_any _ _ _ _ _ _ _ _ R W a, zzstart_any _ _ _ _ _ _ _ _ R W b⟩
  · have := zzorder_any _ _ _ _ _ _ _ _ R W a; rw [rn] at this; exact this
  · have := zzorder_any _ _ _ _ _ _ _ _ R W b; rw [rn] at this; exact this
  · have := zzpos_any _ _ _ _ _ _ _ _ R W a; rw [rn] at this; exact this
  · have := zzpos_any _ _ _ _ _ _ _ _ R W b; rw [rn] at this; exact this
  · have := zzgroup_any _ _ _ _ _ _ _ _ R W a; rw [rn] at this; exact this
  · have := zzgroup_any _ _ _ _ _ _ _ _ R W b; rw [rn] at this; exact this
theorem L7.eqs (h : L7 w0 W n m i KA KB bA bB bS bD bC col gA gB fA fB R H dist seen count) (hn : n ≤ 65536) (hi : i ≤ 65536) :
    (Calls Try.prog 30 #[.slice (some ⟨KA.bo, 0, none⟩) n n, .slice (some ⟨KB.bo, 0, none⟩) n n] W fun e w' => e = .returned (.bool true) ∧ Kept (fun _ => False) W w') ∧
    (Calls Try.prog 30 #[.slice (some ⟨KA.bq, 0, none⟩) n n, .slice (some ⟨KB.bq, 0, none⟩) n n] W fun e w' => e = .returned (.bool true) ∧ Kept (fun _ => False) W w') ∧
    (Calls Try.prog 30 #[.slice (some ⟨KA.bg, 0, none⟩) n n, .slice (some ⟨KB.bg, 0, none⟩) n n] W fun e w' => e = .returned (.bool true) ∧ Kept (fun _ => False) W w') ∧
    (Calls Try.prog 30 #[.slice (some ⟨KA.bs, 0, none⟩) R.len KA.cap, .slice (some ⟨KB.bs, 0, none⟩) R.len KB.cap] W fun e w' => e = .returned (.bool true) ∧ Kept (fun _ => False) W w') := by
  have rn := h.one.side.pk.rn
  have a := h.one.side.pk.rar
  have b := h.two.pk.rar
  have len := h.one.len
  refine ⟨sameInts_any _ _ n n n (by omega) R.order W (fun i hi => a.order.cell (by rw [rn]; exact hi)) (fun i hi => b.order.cell (by rw [rn]; exact hi)), sameInts_any _ _ n n n (by omega) R.pos W (fun i hi => a.pos.cell (by rw [rn]; exact hi)) (fun i hi => b.pos.cell (by rw [rn]; exact hi)),
    sameInts_any _ _ n n n (by omega) R.group W (fun i hi => a.group.cell (by rw [rn]; exact hi)) (fun i hi => b.group.cell (by rw [rn]; exact hi)), sameInts_any _ _ R.len _ _ (by omega) R.start W (fun i hi => a.start.cell hi) (fun i hi => b.start.cell hi)⟩
end
set_option maxRecDepth 100000 in
set_option maxHeartbeats 4000000 in
theorem law7_main (n s1 s2 m : Nat) (hn : n ≤ 65536) (h1 : s1 < 18446744073709551616) (h2 : s2 < 18446744073709551616) (hm : m ≤ 16) (a1 a2 : Option Addr) (len cap1 cap2 : Nat) (hlen : len ≤ 65536) (z1 z2 : Nat → Int) (w : World) (hz1 : Elems w a1 len z1) (hz2 : Elems w a2 len z2) :
    Calls Try.prog 7 #[.int .i64 n, .int .u64 s1, .int .u64 s2, .int .i64 m, .slice a1 len cap1, .slice a2 len cap2] w fun e w' => e = .returned (.bool true) ∧ Below w.heap.size w w' := by
  have Hz1 := hide hz1
  have Hz2 := hide hz2
  have Hby := bytes7_any n s1 s2 m a1 a2 len cap1 len cap2 (by omega) (by omega) w
  rw [decide_eq_true (show len + len ≤ 1048576 by omega)] at Hby
  have Hb := hide Hby
  have Hnew := hide (fun w => newPicker_any n s1 s2 hn h1 h2 w)
  clear hz1 hz2 Hby
  have hnn : ((len : Int) != (len : Int)) = false := by simp
  go_enter Try.func7, Try.ntmps7
  go_wp2_with fail
  refine (unhide Hb).mono ?_
  rintro e w0 ⟨rfl, rfl⟩
  go_wp2_with fail
  clear hnn
  go_loop [13] (fun j => ∃ k : Nat, k ≤ len ∧ j = .int .i64 k ∧ Hid (∀ i, i < k → (0 ≤ z1 i ∧ z1 i < m) ∧ (0 ≤ z2 i ∧ z2 i < n))) (fun j => len - (intOf j).toNat)
  case atStart => exact ⟨0, Nat.zero_le _, rfl, fun i hi => by omega⟩
  case round =>
    obtain ⟨k, hk, rfl, HR⟩ := hrel
    by_cases hlt : k < len
    · obtain ⟨b, off, rfl, _, cz⟩ := unhide Hz1 k hlt
      obtain ⟨b2, off2, rfl, _, cz2⟩ := unhide Hz2 k hlt
      have hk' : (k : Int) < (len : Int) := by omega
      go_wp2_with fail
      all_goals first
        | (go_ret; exact ⟨rfl, Below.refl _ _⟩)
        | (go_round
           case rel => exact ⟨k + 1, by omega, by go_num, ext_lt (unhide HR) (by omega)⟩
           case measure => simp [intOf]; omega)
    · obtain rfl : k = len := by omega
      have hmk := make_ptrs m (by omega)
      go_wp2_with fail
      refine (unhide Hnew _).mono ?_
      rintro e w1 ⟨KA, p1, q1, S1, rfl, hsh, hbij, hPk, hk1, hl⟩
      have HA := hide (And.intro hsh (And.intro hbij (And.intro hPk (And.intro hk1 hl))))
      clear hsh hbij hPk hk1 hl Hb
      go_wp2_with fail
      refine (unhide Hnew _).mono ?_
      rintro e w2 ⟨KB, p2, q2, S2, rfl, hsh, hbij, hPk, hk1, hl⟩
      have H0 := hide (Mk7.start hm (unhide HA).1 hsh (unhide HA).2.1 hbij (unhide HA).2.2.1 (unhide HA).2.2.2.1 (unhide HA).2.2.2.2 hPk hk1 hl)
      clear hsh hbij hPk hk1 hl Hnew HA
      go_wp2_with fail
      clear hmk
      generalize w2.heap.size = bA at *
      generalize bA + 1 = bB at *
      have hmm := @run_makeMap Try.prog
      go_loopw [18] (fun j wr => ∃ x : Nat, x ≤ m ∧ j = .int .i64 x ∧ Hid (Mk7 w0 m n KA KB bA bB (newR n p1 q1 S1) x x wr)) (fun j _ => m - (intOf j).toNat)
      case atStart => exact ⟨0, Nat.zero_le _, rfl, unhide H0⟩
      case round =>
        clear H0
        obtain ⟨x, hx, rfl, HM⟩ := hrel
        by_cases hlt : x < m
        · have Hnp := hide (fun (w : World) h => newPeer_any n w.heap.size hn (w.alloc (.map #[] 0)) h)
          have hx' : (x : Int) < (m : Int) := by omega
          go_wp2_with fail
          refine (unhide Hnp _ (heap_at _ _ _ rfl)).mono ?_
          rintro e w3 ⟨b, bb, bfu, rfl, hPe, hk2, l1, l2, l3⟩
          have hkk : Kept (fun _ => False) wr w3 := ((Kept.refl _ wr).alloc _).trans hk2 (fun _ _ h => h)
          obtain ⟨v0, cP, fP⟩ := (unhide HM).cellA hkk hlt
          have HM2 := hide ((unhide HM).moreA hlt hkk hPe (by simp at l1; omega) (by simp at l2; omega) (by simp at l3; omega) (Nat.le_refl _))
          clear hPe hk2 l1 l2 l3 hkk HM
          go_upto_region 24 with fail
          clear cP fP
          generalize w3.setCell ⟨bA, x, none⟩ (.pointer (some ⟨b, 0, none⟩)) = w4 at *
          go_wp2_with fail
          refine (unhide Hnp _ (heap_at _ _ _ rfl)).mono ?_
          rintro e w5 ⟨b', bb', bfu', rfl, hPe, hk2, l1, l2, l3⟩
          have hkk : Kept (fun _ => False) w4 w5 := ((Kept.refl _ w4).alloc _).trans hk2 (fun _ _ h => h)
          obtain ⟨v1, cP, fP⟩ := (unhide HM2).cellB hkk hlt
          have HM3 := hide ((unhide HM2).moreB hlt hkk hPe (by simp at l1; omega) (by simp at l2; omega) (by simp at l3; omega) (Nat.le_refl _))
          clear hPe hk2 l1 l2 l3 hkk Hnp HM2
          go_wp2_with fail
          go_roundw
          case rel => exact ⟨x + 1, by omega, by go_num, unhide HM3⟩
          case measure => simp [intOf]; omega
        · obtain rfl : x = m := by omega
          obtain ⟨col, gA, gB, fA, fB, L0⟩ := (unhide HM).rounds
          have HL0 := hide L0
          clear L0 HM hmm
          obtain ⟨M, hM⟩ : ∃ M, x * n = M := ⟨_, rfl⟩
          have hMl : M ≤ 1048576 := by rw [← hM]; exact Nat.mul_le_mul (show x ≤ 16 by omega) hn
          have eM : (x : Int) * (n : Int) = (M : Int) := by rw [← hM]; exact (Int.natCast_mul x n).symm
          rw [hM] at HL0
          have hmk1 := make_bools M (by omega)
          have hmk2 := make_ints x (by omega)
          have hmk3 := make_ints n (by omega)
          go_wp2_with fail
          clear hmk1 hmk2 hmk3
          generalize wr.heap.size = bS at *
          generalize bS + 1 = bD at *
          generalize bD + 1 = bC at *
          generalize hpa : KA.pk = pa at *
          generalize hpb : KB.pk = pb at *
          have Hpa := hide hpa
          have Hpb := hide hpb
          clear hpa hpb
          go_loopw [22] (fun j wr => ∃ i : Nat, i ≤ k ∧ j = .int .i64 i ∧ Hid (L7St w0 n x i pa pb bA bB bS bD bC wr)) (fun j _ => k - (intOf j).toNat)
          case atStart => exact ⟨0, Nat.zero_le _, rfl, _, _, _, _, _, _, _, _, _, _, _, _, unhide Hpa, unhide Hpb, unhide HL0⟩
          case round =>
            clear HL0 Hpa Hpb
            rename_i wr0 wr
            obtain ⟨i, hi, rfl, HL⟩ := hrel
            obtain ⟨KA, KB, col, gA, gB, fA, fB, R, H, dist, seen, count, rfl, rfl, L⟩ := unhide HL
            clear HL
            by_cases hlt : i < k
            · obtain ⟨⟨zy0, zy⟩, zp0, zp⟩ := unhide HR i hlt
              obtain ⟨y, hy⟩ := Int.eq_ofNat_of_zero_le zy0
              obtain ⟨p, hp⟩ := Int.eq_ofNat_of_zero_le zp0
              obtain ⟨b, off, rfl, cz⟩ := (unhide Hz1).below L.one.bel hlt
              obtain ⟨b2, off2, rfl, cz2⟩ := (unhide Hz2).below L.one.bel hlt
              rw [hy] at cz zy
              rw [hp] at cz2 zp
              have hyx : y < x := by omega
              have hpn : p < n := by omega
              clear hy hp zy0 zp0
              have hi' : (i : Int) < (k : Int) := by omega
              obtain ⟨N, hN⟩ : ∃ N, y * n = N := ⟨_, rfl⟩
              have hNp : N + p < M := by rw [← hN, ← hM]; exact idx_lt hyx hpn
              have eN : (y : Int) * (n : Int) = (N : Int) := by rw [← hN]; exact (Int.natCast_mul y n).symm
              have hNp' : (N : Int) + (p : Int) < (M : Int) := by omega
              have eT : ((N : Int) + (p : Int)).toNat = N + p := by omega
              have cP : wr.cell? ⟨bA, y, none⟩ = some (.pointer (some ⟨fA.b y, 0, none⟩)) := by rw [L.one.side.prow.cell hyx, L.one.side.ptr y hyx]
              have Hset := hide (setHave_any KA _ _ _ _ n R (H y) (dist y) p hpn hn (by have := L.one.len; omega) (by have := L.one.dle y hyx; omega) (L.one.side.far hyx) wr L.one.side.pk (L.one.side.peer y hyx))
              have HL := hide L
              have HN := hide hN
              clear L hN
              go_wp2_with fail
              refine (unhide Hset).mono ?_
              rintro e w3 ⟨r, rfl, hann⟩
              clear cP cz cz2 Hset
              rcases hann with ⟨hH, _, hA⟩ | ⟨hH, _, hA⟩
              · have hL' := (unhide HL).same hA (Nat.le_succ i)
                have cS : w3.cell? ⟨bS, N + p, none⟩ = some (.bool true) := by rw [← unhide HN, hL'.one.sr.cell (idx_lt hyx hpn), hL'.one.has y hyx p hpn, hH]
                have HL' := hide hL'
                clear hL' hA hH HL
                go_wp2_with fail
                go_roundw
                case rel => exact ⟨i + 1, by omega, by go_num, KA, KB, col, gA, gB, fA, fB, R, H, dist, seen, count, rfl, rfl, unhide HL'⟩
                case measure => simp [intOf]; omega
              · obtain ⟨⟨sr, dr, cr⟩, KA', v, S', col', hKA, hRo, hL5, hB5⟩ := (unhide HL).half hyx hpn hA
                rw [unhide HN] at hL5 hB5
                have cS : w3.cell? ⟨bS, N + p, none⟩ = some (.bool false) := by rw [← unhide HN, sr.cell (idx_lt hyx hpn), (unhide HL).one.has y hyx p hpn, hH]
                have fS1 := sr.free (y * n + p)
                rw [unhide HN] at fS1
                have cD1 := dr.cell hyx
                have fD1 := dr.free y
                have cC1 := cr.cell hpn
                have fC1 := cr.free p
                have hdl := (unhide HL).one.dle y hyx
                have hcl := (unhide HL).one.cle p hpn
                have hrl := (unhide HL).one.len
                obtain ⟨r1, r2, r3⟩ := (unhide HL).one.rc
                have nSD : bS ≠ bD := fun e => by rw [e] at r1; omega
                have nSC : bS ≠ bC := fun e => by rw [e] at r1; omega
                have nDC : bD ≠ bC := fun e => by rw [e] at r2; omega
                have hyx' : (y : Int) < (x : Int) := by omega
                have hpn' : (p : Int) < (n : Int) := by omega
                have HL' := hide (And.intro hKA (And.intro hRo (And.intro hL5 hB5)))
                have HH := hide hH
                clear sr dr cr hL5 hKA hRo hB5 hA r1 r2 r3 HL hH
                go_upto_region 38 with fail
                rw [show ((dist y : Int) + 1) = ((dist y + 1 : Nat) : Int) by omega, show ((count p : Int) + 1) = ((count p + 1 : Nat) : Int) by omega]
                clear cS fS1 cD1 fD1 cC1 fC1 hcl nSD nSC nDC
                generalize ((w3.setCell ⟨bS, N + p, none⟩ (.bool true)).setCell ⟨bD, y, none⟩ (.int .i64 ((dist y + 1 : Nat) : Int))).setCell ⟨bC, p, none⟩ (.int .i64 ((count p + 1 : Nat) : Int)) = w4 at *
                obtain ⟨hKA, hRo, hL5, hB5⟩ := unhide HL'
                have cQ : w4.cell? ⟨bB, y, none⟩ = some (.pointer (some ⟨fB.b y, 0, none⟩)) := by rw [hB5.prow.cell hyx, hB5.ptr y hyx]
                have Hzs := hide (zzset_any _ _ _ _ n (H y) (dist y) (dist y) p hpn hn (by omega) (unhide HH) w4 (hB5.peer y hyx))
                clear hKA hRo hL5 hB5
                go_wp2_with fail
                refine (unhide Hzs).mono ?_
                rintro e w5 ⟨rfl, hPe, hk5⟩
                obtain ⟨hKA, hRo, hL5, hB5⟩ := unhide HL'
                have hPk := (hB5.far hyx).set hB5.pk hk5
                have cQ2 : w5.cell? ⟨bB, y, none⟩ = some (.pointer (some ⟨fB.b y, 0, none⟩)) := hk5.cellF cQ (by
                  obtain ⟨b1, b2, b3, b4⟩ := hB5.qc y hyx
                  have := hB5.pc
                  simp only
                  rintro (e | e | e) <;> (rw [e] at this; omega))
                have Had := hide (zzadded_any KB _ _ _ _ n R (bupd (H y) p true) (dist y + 1) (dist y) p hpn hn (by omega) (by omega) (bupd_same _ _ _) (hB5.far hyx) w5 hPk hPe)
                have Hk5 := hide hk5
                clear hKA hRo hL5 hB5 hPk hPe hk5 cQ Hzs
                go_wp2_with fail
                refine (unhide Had).mono ?_
                rintro e w6 ⟨rfl, hAd⟩
                obtain ⟨hKA, hRo, hL5, hB5⟩ := unhide HL'
                obtain ⟨KB', col2, hKB, hL7⟩ := L7.whole hL5 hB5 hRo rfl rfl rfl hyx (hAd.behind (unhide Hk5))
                have HL7 := hide (And.intro hKA (And.intro hKB hL7))
                clear hKA hRo hL5 hB5 hKB hL7 hAd HL' Had cQ2
                go_wp2_with fail
                go_roundw
                case rel => exact ⟨i + 1, by omega, by go_num, KA', KB', _, _, _, _, _, _, _, _, _, _, (unhide HL7).1, (unhide HL7).2.1, (unhide HL7).2.2⟩
                case measure => simp [intOf]; omega
            · obtain rfl : i = k := by omega
              have HL := hide L
              clear L HR Hz1 Hz2
              go_wp2_with fail
              go_loopw [25] (fun j wr => ∃ v : Nat, v ≤ x ∧ j = .int .i64 v ∧ Hid (L7 w0 wr n x i KA KB bA bB bS bD bC col gA gB fA fB R H dist seen count)) (fun j _ => x - (intOf j).toNat)
              case atStart => exact ⟨0, Nat.zero_le _, rfl, unhide HL⟩
              case round =>
                clear HL
                rename_i wrA wr
                obtain ⟨v, hv, rfl, HL⟩ := hrel
                by_cases hlt : v < x
                · have hvx' : (v : Int) < (x : Int) := by omega
                  have HS := hide (T7.mk hlt (unhide HL))
                  obtain ⟨d, hd⟩ : ∃ d, dist v = d := ⟨_, rfl⟩
                  have nd : ((d : Int) != (d : Int)) = false := by simp
                  rw [hd] at HS
                  go_upto_region 43 with fail
                  go_region_held3 (fun W => W.cell? ⟨bA, v, none⟩ = some (.pointer (some ⟨fA.b v, 0, none⟩)) ∧ W.cell? ⟨bB, v, none⟩ = some (.pointer (some ⟨fB.b v, 0, none⟩)) ∧ W.cell? ⟨bD, v, none⟩ = some (.int .i64 (d : Nat)) ∧ Hid (L7 w0 W n x i KA KB bA bB bS bD bC col gA gB fA fB R H dist seen count))
                    (first | exact T7.keep (unhide HS) ((Kept.refl _ _).drew) | assumption | exact T7.keep (unhide HS) (Kept.refl _ _))
                    (first | (go_at_call 22; refine (T7.wantedA hlt hd (by assumption)).mono ?_; rintro e w5 ⟨rfl, rfl⟩) | (go_at_call 22; refine (T7.wantedB hlt hd (by assumption)).mono ?_; rintro e w5 ⟨rfl, rfl⟩))
                  have HL1 : Hid (L7 w0 wr.drew n x i KA KB bA bB bS bD bC col gA gB fA fB R H dist seen count) := (unhide HL).same ((Kept.refl _ _).drew) (Nat.le_refl _)
                  clear HL HS
                  go_wp2_with fail
                  go_roundw
                  case rel => exact ⟨v + 1, by omega, by go_num, unhide HL1⟩
                  case measure => simp [intOf]; omega
                · have HG := hide ((unhide HL).get)
                  have HE := hide ((unhide HL).eqs hn hlen)
                  have nn : ((n : Int) != (n : Int)) = false := by simp
                  go_wp2_with fail
                  refine (unhide HG).1.mono ?_
                  rintro e _ ⟨rfl, rfl⟩
                  go_wp2_with fail
                  refine (unhide HG).2.1.mono ?_
                  rintro e _ ⟨rfl, rfl⟩
                  go_wp2_with fail
                  refine (unhide HG).2.2.1.mono ?_
                  rintro e _ ⟨rfl, rfl⟩
                  go_wp2_with fail
                  refine (unhide HG).2.2.2.1.mono ?_
                  rintro e _ ⟨rfl, rfl⟩
                  go_wp2_with fail
                  refine (unhide HE).1.mono ?_
                  rintro e wa ⟨rfl, hka⟩
                  have HLa := hide ((unhide HL).same hka (Nat.le_refl _))
                  clear hka HL HG HE
                  have HG := hide ((unhide HLa).get)
                  have HE := hide ((unhide HLa).eqs hn hlen)
                  go_wp2_with fail
                  refine (unhide HG).2.2.2.2.1.mono ?_
                  rintro e _ ⟨rfl, rfl⟩
                  go_wp2_with fail
                  refine (unhide HG).2.2.2.2.2.1.mono ?_
                  rintro e _ ⟨rfl, rfl⟩
                  go_wp2_with fail
                  refine (unhide HE).2.1.mono ?_
                  rintro e wb ⟨rfl, hkb⟩
                  have HLb := hide ((unhide HLa).same hkb (Nat.le_refl _))
                  clear hkb HLa HG HE
                  have HG := hide ((unhide HLb).get)
                  have HE := hide ((unhide HLb).eqs hn hlen)
                  go_wp2_with fail
                  refine (unhide HG).2.2.2.2.2.2.1.mono ?_
                  rintro e _ ⟨rfl, rfl⟩
                  go_wp2_with fail
                  refine (unhide HG).2.2.2.2.2.2.2.1.mono ?_
                  rintro e _ ⟨rfl, rfl⟩
                  go_wp2_with fail
                  refine (unhide HE).2.2.1.mono ?_
                  rintro e wc ⟨rfl, hkc⟩
                  have HLc := hide ((unhide HLb).same hkc (Nat.le_refl _))
                  clear hkc HLb HG HE
                  have HG := hide ((unhide HLc).get)
                  have HE := hide ((unhide HLc).eqs hn hlen)
                  go_wp2_with fail
                  refine (unhide HG).2.2.2.2.2.2.2.2.1.mono ?_
                  rintro e _ ⟨rfl, rfl⟩
                  go_wp2_with fail
                  refine (unhide HG).2.2.2.2.2.2.2.2.2.mono ?_
                  rintro e _ ⟨rfl, rfl⟩
                  go_wp2_with fail
                  refine (unhide HE).2.2.2.mono ?_
                  rintro e wd ⟨rfl, hkd⟩
                  have HLd := hide ((unhide HLc).same hkd (Nat.le_refl _))
                  clear hkd HLc HG HE
                  have HG := hide ((unhide HLd).get)
                  go_wp2_with fail
                  refine (unhide HG).2.2.2.2.2.2.2.1.mono ?_
                  rintro e _ ⟨rfl, rfl⟩
                  go_wp2_with fail
                  clear HG nn
                  go_loopw [29] (fun j wr => ∃ u : Nat, u ≤ n ∧ j = .int .i64 u ∧ Hid (L7 w0 wr n x i KA KB bA bB bS bD bC col gA gB fA fB R H dist seen count)) (fun j _ => n - (intOf j).toNat)
                  case atStart => exact ⟨0, Nat.zero_le _, rfl, unhide HLd⟩
                  case round =>
                    clear HLd
                    obtain ⟨u, hu, rfl, HL⟩ := hrel
                    by_cases hltu : u < n
                    · have hun' : (u : Int) < (n : Int) := by omega
                      have cg := (unhide HL).two.pk.rar.group.cell (i := u) (by rw [(unhide HL).two.pk.rn]; exact hltu)
                      have ck := (unhide HL).one.cr.cell hltu
                      rw [(unhide HL).one.grp u hltu] at cg
                      have hcl := (unhide HL).one.cle u hltu
                      obtain ⟨c, hc⟩ : ∃ c, count u = c := ⟨_, rfl⟩
                      rw [hc] at cg ck hcl
                      have cg' : wr.cell? ⟨KB.bg, u, none⟩ = some (.int .i64 ((c : Int) + 1)) := by rw [cg]; simp
                      have n2 : ((c : Int) + 1 != (c : Int) + 1) = false := by simp
                      have wr1 : IntKind.i64.wrap ((c : Int) + 1) = (c : Int) + 1 := by rw [IntKind.wrap_i64]; omega
                      have Hc := hide hc
                      clear cg hc
                      go_wp2_with fail
                      go_quiet (fail)
                      go_wp2_with fail
                      go_roundw
                      case rel => exact ⟨u + 1, by omega, by go_num, (unhide HL).same ((Kept.refl _ _).drewN _) (Nat.le_refl _)⟩
                      case measure => simp [intOf]; omega
                    · have HB := hide (unhide HL).one.bel
                      clear HL
                      go_wp2_with fail
                      go_ret
                      exact ⟨rfl, unhide HB⟩
end Go.Proofs.Qxb6616210a
