/-
  THE LAW FnSetHaveTrueOnlyOnFirstAnnouncement (5): its walk.
-/
import Derived.Test.Qxb6616210aAnn
import Derived.Deep.Cut
import Derived.Deep.RegionHeld3
namespace Go.Proofs.Qxb6616210a
open Go.RowKit Go.Lib
def L5St (w0 : World) (n m i pk bP bS bD bC : Nat) (W : World) : Prop := ∃ K col g f R H dist seen count, K.pk = pk ∧ L5 w0 W n m i K bP bS bD bC col g f R H dist seen count
/-- The same, at peer y, whose count is d. -/
def L5Y (w0 : World) (n m i pk bP bS bD bC : Nat) (g : Nat → Option Addr) (f : Fam) (y d : Nat) (W : World) : Prop := ∃ K col R H dist seen count, K.pk = pk ∧ dist y = d ∧ L5 w0 W n m i K bP bS bD bC col g f R H dist seen count
section
variable {w0 W W' : World} {n m i pk bP bS bD bC y d : Nat} {g : Nat → Option Addr} {f : Fam}
theorem S5.mk {K : Blk} {col : Nat → Nat} {R : RS} {H : Nat → Nat → Bool} {dist : Nat → Nat} {seen : Nat → Bool} {count : Nat → Nat} (hd : dist y = d) (hK : K.pk = pk) (c1 : W.cell? ⟨bP, y, none⟩ = some (.pointer (some ⟨f.b y, 0, none⟩))) (c2 : W.cell? ⟨bD, y, none⟩ = some (.int .i64 (d : Nat))) (h : L5 w0 W n m i K bP bS bD bC col g f R H dist seen count) :
    W.cell? ⟨bP, y, none⟩ = some (.pointer (some ⟨f.b y, 0, none⟩)) ∧ W.cell? ⟨bD, y, none⟩ = some (.int .i64 (d : Nat)) ∧ Hid (L5Y w0 n m i pk bP bS bD bC g f y d W) := ⟨c1, c2, _, _, _, _, _, _, _, hK, hd, h⟩
theorem S5.keep (h : W.cell? ⟨bP, y, none⟩ = some (.pointer (some ⟨f.b y, 0, none⟩)) ∧ W.cell? ⟨bD, y, none⟩ = some (.int .i64 (d : Nat)) ∧ Hid (L5Y w0 n m i pk bP bS bD bC g f y d W)) (hk : Kept (fun _ => False) W W') :
    W'.cell? ⟨bP, y, none⟩ = some (.pointer (some ⟨f.b y, 0, none⟩)) ∧ W'.cell? ⟨bD, y, none⟩ = some (.int .i64 (d : Nat)) ∧ Hid (L5Y w0 n m i pk bP bS bD bC g f y d W') := by
  obtain ⟨c1, c2, K, col, R, H, dist, seen, count, hK, hd, h⟩ := h
  exact ⟨hk.cellN c1, hk.cellN c2, K, col, R, H, dist, seen, count, hK, hd, h.same hk (Nat.le_refl _)⟩
theorem S5.wanted (hy : y < m) (h : W.cell? ⟨bP, y, none⟩ = some (.pointer (some ⟨f.b y, 0, none⟩)) ∧ W.cell? ⟨bD, y, none⟩ = some (.int .i64 (d : Nat)) ∧ Hid (L5Y w0 n m i pk bP bS bD bC g f y d W)) :
    Calls Try.prog 22 #[.pointer (some ⟨f.b y, 0, none⟩)] W fun e w' => e = .returned (.int .i64 d) ∧ w' = W := by
  obtain ⟨c1, c2, K, col, R, H, dist, seen, count, hK, hd, h⟩ := h
  have := zzwanted_any _ _ _ _ _ _ _ _ W (h.side.peer y hy)
  rw [hd] at this
  exact this
theorem S5.interesting (v : Value) (hy : y < m) (h : W.cell? ⟨bP, y, none⟩ = some (.pointer (some ⟨f.b y, 0, none⟩)) ∧ W.cell? ⟨bD, y, none⟩ = some (.int .i64 (d : Nat)) ∧ Hid (L5Y w0 n m i pk bP bS bD bC g f y d W)) :
    Calls Try.prog 23 #[v, .pointer (some ⟨f.b y, 0, none⟩)] W fun e w' => e = .returned (.bool (decide ((0 : Int) < (d : Int)))) ∧ w' = W := by
  obtain ⟨c1, c2, K, col, R, H, dist, seen, count, hK, hd, h⟩ := h
  have := interesting_any v _ _ _ _ _ _ _ _ W (h.side.peer y hy)
  rw [hd, show decide (0 < d) = decide ((0 : Int) < (d : Int)) by simp] at this
  exact this
end
section
variable {w0 W W' : World} {n m i bP bS bD bC v u d N : Nat} {K : Blk} {col : Nat → Nat} {g : Nat → Option Addr} {f : Fam} {R : RS} {H : Nat → Nat → Bool} {dist : Nat → Nat} {seen : Nat → Bool} {count : Nat → Nat}
theorem S6.mk (hv : v < m) (h : L5 w0 W n m i K bP bS bD bC col g f R H dist seen count) : W.cell? ⟨bP, v, none⟩ = some (.pointer (some ⟨f.b v, 0, none⟩)) ∧ W.cell? ⟨bD, v, none⟩ = some (.int .i64 (dist v : Nat)) ∧ Hid (L5 w0 W n m i K bP bS bD bC col g f R H dist seen count) :=
  ⟨by rw [h.side.prow.cell hv, h.side.ptr v hv], h.dr.cell hv, h⟩
theorem S6.keep (h : W.cell? ⟨bP, v, none⟩ = some (.pointer (some ⟨f.b v, 0, none⟩)) ∧ W.cell? ⟨bD, v, none⟩ = some (.int .i64 (d : Nat)) ∧ Hid (L5 w0 W n m i K bP bS bD bC col g f R H dist seen count)) (hk : Kept (fun _ => False) W W') :
    W'.cell? ⟨bP, v, none⟩ = some (.pointer (some ⟨f.b v, 0, none⟩)) ∧ W'.cell? ⟨bD, v, none⟩ = some (.int .i64 (d : Nat)) ∧ Hid (L5 w0 W' n m i K bP bS bD bC col g f R H dist seen count) :=
  ⟨hk.cellN h.1, hk.cellN h.2.1, (unhide h.2.2).same hk (Nat.le_refl _)⟩
theorem S6.wanted (hv : v < m) (hd : dist v = d) (h : W.cell? ⟨bP, v, none⟩ = some (.pointer (some ⟨f.b v, 0, none⟩)) ∧ W.cell? ⟨bD, v, none⟩ = some (.int .i64 (d : Nat)) ∧ Hid (L5 w0 W n m i K bP bS bD bC col g f R H dist seen count)) :
    Calls Try.prog 22 #[.pointer (some ⟨f.b v, 0, none⟩)] W fun e w' => e = .returned (.int .i64 d) ∧ w' = W := by
  have := zzwanted_any _ _ _ _ _ _ _ _ W ((unhide h.2.2).side.peer v hv)
  rw [hd] at this
  exact this
theorem S7.mk (hv : v < m) (hu : u < n) (h : L5 w0 W n m i K bP bS bD bC col g f R H dist seen count) : W.cell? ⟨bP, v, none⟩ = some (.pointer (some ⟨f.b v, 0, none⟩)) ∧ W.cell? ⟨bS, v * n + u, none⟩ = some (.bool (H v u)) ∧ Hid (L5 w0 W n m i K bP bS bD bC col g f R H dist seen count) :=
  ⟨by rw [h.side.prow.cell hv, h.side.ptr v hv], by rw [h.sr.cell (idx_lt hv hu), h.has v hv u hu], h⟩
theorem S7.keep (h : W.cell? ⟨bP, v, none⟩ = some (.pointer (some ⟨f.b v, 0, none⟩)) ∧ W.cell? ⟨bS, N + u, none⟩ = some (.bool (H v u)) ∧ Hid (L5 w0 W n m i K bP bS bD bC col g f R H dist seen count)) (hk : Kept (fun _ => False) W W') :
    W'.cell? ⟨bP, v, none⟩ = some (.pointer (some ⟨f.b v, 0, none⟩)) ∧ W'.cell? ⟨bS, N + u, none⟩ = some (.bool (H v u)) ∧ Hid (L5 w0 W' n m i K bP bS bD bC col g f R H dist seen count) :=
  ⟨hk.cellN h.1, hk.cellN h.2.1, (unhide h.2.2).same hk (Nat.le_refl _)⟩
theorem S7.has (hn : n ≤ 65536) (hv : v < m) (hu : u < n) (h : W.cell? ⟨bP, v, none⟩ = some (.pointer (some ⟨f.b v, 0, none⟩)) ∧ W.cell? ⟨bS, N + u, none⟩ = some (.bool (H v u)) ∧ Hid (L5 w0 W n m i K bP bS bD bC col g f R H dist seen count)) :
    Calls Try.prog 24 #[.pointer (some ⟨f.b v, 0, none⟩), .int .i64 u] W fun e w' => e = .returned (.bool (H v u)) ∧ Kept (fun _ => False) W w' :=
  zzhas_any _ _ _ _ _ _ _ _ u hu hn W ((unhide h.2.2).side.peer v hv)
end
theorem Mk5.cell {w0 W W' : World} {m n : Nat} {K : Blk} {bP : Nat} {R : RS} {x : Nat} (h : Mk5 w0 m n K bP R x W) (hk : Kept (fun _ => False) W W') (hx : x < m) : ∃ v, W'.cell? ⟨bP, x, none⟩ = some v ∧ W'.frozen? ⟨bP, x, none⟩ = false := by
  obtain ⟨col, g, f, hS, _⟩ := h
  have hP := hS.prow.keep hk id
  exact ⟨_, hP.cell hx, hP.free x⟩
set_option maxRecDepth 100000 in
set_option maxHeartbeats 4000000 in
theorem law5_main (n s1 s2 m : Nat) (hn : n ≤ 65536) (h1 : s1 < 18446744073709551616) (h2 : s2 < 18446744073709551616) (hm : m ≤ 16) (a1 a2 : Option Addr) (len cap1 cap2 : Nat) (hlen : len ≤ 65536) (z1 z2 : Nat → Int) (w : World) (hz1 : Elems w a1 len z1) (hz2 : Elems w a2 len z2) :
    Calls Try.prog 5 #[.int .i64 n, .int .u64 s1, .int .u64 s2, .int .i64 m, .slice a1 len cap1, .slice a2 len cap2] w fun e w' => e = .returned (.bool true) ∧ Below w.heap.size w w' := by
  have Hz1 := hide hz1
  have Hz2 := hide hz2
  have Hby := bytes5_any n s1 s2 m a1 a2 len cap1 len cap2 (by omega) (by omega) w
  rw [decide_eq_true (show len + len ≤ 1048576 by omega)] at Hby
  have Hb := hide Hby
  have Hnew := hide (newPicker_any n s1 s2 hn h1 h2 w)
  clear hz1 hz2 Hby
  have hnn : ((len : Int) != (len : Int)) = false := by simp
  go_enter Try.func5, Try.ntmps5
  go_wp2_with fail
  refine (unhide Hb).mono ?_
  rintro e w0 ⟨rfl, rfl⟩
  go_wp2_with fail
  clear hnn
  go_loop [13] (fun j => ∃ k : Nat, k ≤ len ∧ j = .int .i64 k ∧ Hid (∀ i, i < k → (0 ≤ z1 i ∧ z1 i < m) ∧ (0 ≤ z2 i ∧ z2 i < n))) (fun j => len - (intOf j).toNat)
  case atStart => exact ⟨0, Nat.zero_le _, rfl, fun i hi => by omega⟩
  case round =>
    obtain ⟨k, hk, rfl, HR⟩ := hrel
    by_cases hlt : k < len
    · obtain ⟨b, off, rfl, _, cz⟩ := unhide Hz1 k hlt
      obtain ⟨b2, off2, rfl, _, cz2⟩ := unhide Hz2 k hlt
      have hk' : (k : Int) < (len : Int) := by omega
      go_wp2_with fail
      all_goals first
        | (go_ret; exact ⟨rfl, Below.refl _ _⟩)
        | (go_round
           case rel => exact ⟨k + 1, by omega, by go_num, ext_lt (unhide HR) (by omega)⟩
           case measure => simp [intOf]; omega)
    · obtain rfl : k = len := by omega
      have hmk := make_ptrs m (by omega)
      go_wp2_with fail
      refine (unhide Hnew).mono ?_
      rintro e w1 ⟨K, p', q, S', rfl, hsh, hbij, hPk, hk1, hl⟩
      have H0 := hide (Mk5.start hm hPk hk1 hl)
      clear hsh hbij hPk hk1 hl Hnew Hb
      go_wp2_with fail
      clear hmk
      generalize w1.heap.size = bP at *
      have hmm := @run_makeMap Try.prog
      go_loopw [16] (fun j wr => ∃ x : Nat, x ≤ m ∧ j = .int .i64 x ∧ Hid (Mk5 w0 m n K bP (newR n p' q S') x wr)) (fun j _ => m - (intOf j).toNat)
      case atStart => exact ⟨0, Nat.zero_le _, rfl, unhide H0⟩
      case round =>
        clear H0
        obtain ⟨x, hx, rfl, HM⟩ := hrel
        by_cases hlt : x < m
        · have Hnp := hide (newPeer_any n wr.heap.size hn (wr.alloc (.map #[] 0)) (heap_at _ _ _ rfl))
          have hx' : (x : Int) < (m : Int) := by omega
          go_wp2_with fail
          refine (unhide Hnp).mono ?_
          rintro e w2 ⟨b, bb, bfu, rfl, hPe, hk2, l1, l2, l3⟩
          have hkk : Kept (fun _ => False) wr w2 := ((Kept.refl _ wr).alloc _).trans hk2 (fun _ _ h => h)
          obtain ⟨v0, cP, fP⟩ := (unhide HM).cell hkk hlt
          have HM2 := hide ((unhide HM).more hlt hkk hPe (by simp at l1; omega) (by simp at l2; omega) (by simp at l3; omega) (Nat.le_refl _))
          clear hPe hk2 l1 l2 l3 hkk Hnp HM
          go_wp2_with fail
          go_roundw
          case rel => exact ⟨x + 1, by omega, by go_num, unhide HM2⟩
          case measure => simp [intOf]; omega
        · obtain rfl : x = m := by omega
          obtain ⟨col, g, f, L0⟩ := (unhide HM).rounds
          have HL0 := hide L0
          clear L0 HM hmm
          obtain ⟨M, hM⟩ : ∃ M, x * n = M := ⟨_, rfl⟩
          have hMl : M ≤ 1048576 := by rw [← hM]; exact Nat.mul_le_mul (show x ≤ 16 by omega) hn
          have eM : (x : Int) * (n : Int) = (M : Int) := by rw [← hM]; exact (Int.natCast_mul x n).symm
          rw [hM] at HL0
          have hmk1 := make_bools M (by omega)
          have hmk2 := make_ints x (by omega)
          have hmk3 := make_ints n (by omega)
          go_wp2_with fail
          clear hmk1 hmk2 hmk3
          generalize wr.heap.size = bS at *
          generalize bS + 1 = bD at *
          generalize bD + 1 = bC at *
          generalize hpk : K.pk = pk at *
          have Hpk := hide hpk
          clear hpk
          go_loopw [20] (fun j wr => ∃ i : Nat, i ≤ k ∧ j = .int .i64 i ∧ Hid (L5St w0 n x i pk bP bS bD bC wr)) (fun j _ => k - (intOf j).toNat)
          case atStart => exact ⟨0, Nat.zero_le _, rfl, _, _, _, _, _, _, _, _, _, unhide Hpk, unhide HL0⟩
          case round =>
            clear HL0 Hpk
            rename_i wr0 wr
            obtain ⟨i, hi, rfl, HL⟩ := hrel
            obtain ⟨K, col, g, f, R, H, dist, seen, count, rfl, L⟩ := unhide HL
            clear HL
            by_cases hlt : i < k
            · obtain ⟨⟨zy0, zy⟩, zp0, zp⟩ := unhide HR i hlt
              obtain ⟨y, hy⟩ := Int.eq_ofNat_of_zero_le zy0
              obtain ⟨p, hp⟩ := Int.eq_ofNat_of_zero_le zp0
              obtain ⟨b, off, rfl, cz⟩ := (unhide Hz1).below L.bel hlt
              obtain ⟨b2, off2, rfl, cz2⟩ := (unhide Hz2).below L.bel hlt
              rw [hy] at cz zy
              rw [hp] at cz2 zp
              have hyx : y < x := by omega
              have hpn : p < n := by omega
              clear hy hp zy0 zp0
              have hi' : (i : Int) < (k : Int) := by omega
              obtain ⟨N, hN⟩ : ∃ N, y * n = N := ⟨_, rfl⟩
              have hNp : N + p < M := by rw [← hN, ← hM]; exact idx_lt hyx hpn
              have eN : (y : Int) * (n : Int) = (N : Int) := by rw [← hN]; exact (Int.natCast_mul y n).symm
              have hNp' : (N : Int) + (p : Int) < (M : Int) := by omega
              have eT : ((N : Int) + (p : Int)).toNat = N + p := by omega
              have cS : wr.cell? ⟨bS, N + p, none⟩ = some (.bool (H y p)) := by rw [← hN, L.sr.cell (idx_lt hyx hpn), L.has y hyx p hpn]
              have cP : wr.cell? ⟨bP, y, none⟩ = some (.pointer (some ⟨f.b y, 0, none⟩)) := by rw [L.side.prow.cell hyx, L.side.ptr y hyx]
              have Hset := hide (setHave_any K _ _ _ _ n R (H y) (dist y) p hpn hn (by have := L.len; omega) (by have := L.dle y hyx; omega) (L.side.far hyx) wr L.side.pk (L.side.peer y hyx))
              have HL := hide L
              have HN := hide hN
              clear L hN
              by_cases hH : H y p = true
              · rw [hH] at cS
                go_wp2_with fail
                refine (unhide Hset).mono ?_
                rintro e w3 ⟨r, rfl, hann⟩
                rcases hann with ⟨_, e2, hA⟩ | ⟨e1, _⟩
                rotate_left
                · exact absurd (e1.symm.trans hH) (by simp)
                obtain rfl : r = false := by simpa using e2
                have HL' := hide ((unhide HL).same hA (Nat.le_succ i))
                clear hA e2 Hset HL cS cP
                go_upto_region 37 with fail
                have hL' := unhide HL'
                have hK' : K.pk = K.pk := rfl
                clear HL'
                refine wp_forget (fun W => ∃ K' col' R' H' dist' seen' count', K'.pk = K.pk ∧ L5 w0 W n x (i + 1) K' bP bS bD bC col' g f R' H' dist' seen' count') ⟨_, _, _, _, _, _, _, hK', hL'⟩ ?_
                clear hK' hL'
                rintro w4 ⟨K', col', R', H', dist', seen', count', hK', L'⟩
                have cP' : w4.cell? ⟨bP, y, none⟩ = some (.pointer (some ⟨f.b y, 0, none⟩)) := by rw [L'.side.prow.cell hyx, L'.side.ptr y hyx]
                have cD' := L'.dr.cell hyx
                obtain ⟨d, hd⟩ : ∃ d, dist' y = d := ⟨_, rfl⟩
                rw [hd] at cD'
                have HS := hide (S5.mk hd hK' cP' cD' L')
                clear hd hK' cP' cD' L'
                have nd : ((d : Int) != (d : Int)) = false := by simp
                have nb : (decide ((0 : Int) < (d : Int)) != decide ((0 : Int) < (d : Int))) = false := by simp
                have hyx' : (y : Int) < (x : Int) := by omega
                go_region_held3 (fun W => W.cell? ⟨bP, y, none⟩ = some (.pointer (some ⟨f.b y, 0, none⟩)) ∧ W.cell? ⟨bD, y, none⟩ = some (.int .i64 (d : Nat)) ∧ Hid (L5Y w0 n x (i + 1) K.pk bP bS bD bC g f y d W))
                  (first | exact S5.keep (unhide HS) ((Kept.refl _ _).drew) | assumption | exact S5.keep (unhide HS) (Kept.refl _ _))
                  (first | (go_at_call 22; refine (S5.wanted hyx (by assumption)).mono ?_; rintro e w5 ⟨rfl, rfl⟩))
                have hS1 : w4.drew.cell? ⟨bP, y, none⟩ = some (.pointer (some ⟨f.b y, 0, none⟩)) ∧ w4.drew.cell? ⟨bD, y, none⟩ = some (.int .i64 (d : Nat)) ∧ Hid (L5Y w0 n x (i + 1) K.pk bP bS bD bC g f y d w4.drew) := by assumption
                have HS1 := hide hS1
                clear hS1 HS
                go_upto_region 39 with fail
                generalize w4.drew = w5 at *
                go_region_held3 (fun W => W.cell? ⟨bP, y, none⟩ = some (.pointer (some ⟨f.b y, 0, none⟩)) ∧ W.cell? ⟨bD, y, none⟩ = some (.int .i64 (d : Nat)) ∧ Hid (L5Y w0 n x (i + 1) K.pk bP bS bD bC g f y d W))
                  (first | exact S5.keep (unhide HS1) ((Kept.refl _ _).drew) | assumption | exact S5.keep (unhide HS1) (Kept.refl _ _))
                  (first | (go_at_call 23; refine (S5.interesting _ hyx (by assumption)).mono ?_; rintro e w6 ⟨rfl, rfl⟩))
                have hS2 : w5.drew.cell? ⟨bP, y, none⟩ = some (.pointer (some ⟨f.b y, 0, none⟩)) ∧ w5.drew.cell? ⟨bD, y, none⟩ = some (.int .i64 (d : Nat)) ∧ Hid (L5Y w0 n x (i + 1) K.pk bP bS bD bC g f y d w5.drew) := by assumption
                have HS2 := hide hS2
                clear hS2 HS1
                go_wp2_with fail
                go_roundw
                case rel =>
                  obtain ⟨_, _, K2, col2, R2, H2, dist2, seen2, count2, e1, _, L2⟩ := unhide HS2
                  exact ⟨i + 1, by omega, by go_num, K2, col2, g, f, R2, H2, dist2, seen2, count2, e1, L2⟩
                case measure => simp [intOf]; omega
              · have hH' : H y p = false := by simpa using hH
                rw [hH'] at cS
                go_wp2_with fail
                refine (unhide Hset).mono ?_
                rintro e w3 ⟨r, rfl, hann⟩
                rcases hann with ⟨e1, _⟩ | ⟨_, e2, hA⟩
                · exact absurd (e1.symm.trans hH') (by simp)
                obtain rfl : r = true := by simpa using e2
                obtain ⟨⟨sr, dr, cr⟩, K', col', R', hK', hL'⟩ := (unhide HL).fresh hyx hpn hA
                rw [unhide HN] at hL'
                have cS1 := sr.cell (idx_lt hyx hpn)
                have fS1 := sr.free (y * n + p)
                rw [unhide HN] at cS1 fS1
                have cD1 := dr.cell hyx
                have fD1 := dr.free y
                have cC1 := cr.cell hpn
                have fC1 := cr.free p
                have hdl := (unhide HL).dle y hyx
                have hcl := (unhide HL).cle p hpn
                obtain ⟨r1, r2, r3⟩ := (unhide HL).rc
                have nSD : bS ≠ bD := fun e => by rw [e] at r1; omega
                have nSC : bS ≠ bC := fun e => by rw [e] at r1; omega
                have nDC : bD ≠ bC := fun e => by rw [e] at r2; omega
                have hyx' : (y : Int) < (x : Int) := by omega
                have hpn' : (p : Int) < (n : Int) := by omega
                have HL' := hide hL'
                have HK' := hide hK'
                clear sr dr cr hL' hK' hA e2 r1 r2 r3 Hset HL cS cP hH hH'
                go_upto_region 37 with fail
                rw [show ((dist y : Int) + 1) = ((dist y + 1 : Nat) : Int) by omega, show ((count p : Int) + 1) = ((count p + 1 : Nat) : Int) by omega]
                have hL' := unhide HL'
                have hK' := unhide HK'
                clear HL' HK' cS1 fS1 cD1 fD1 cC1 fC1 hdl hcl nSD nSC nDC hyx' hpn'
                refine wp_forget (fun W => ∃ K' col' R' H' dist' seen' count', K'.pk = K.pk ∧ L5 w0 W n x (i + 1) K' bP bS bD bC col' g f R' H' dist' seen' count') ⟨_, _, _, _, _, _, _, hK', hL'⟩ ?_
                clear hK' hL'
                rintro w4 ⟨K', col', R', H', dist', seen', count', hK', L'⟩
                have cP' : w4.cell? ⟨bP, y, none⟩ = some (.pointer (some ⟨f.b y, 0, none⟩)) := by rw [L'.side.prow.cell hyx, L'.side.ptr y hyx]
                have cD' := L'.dr.cell hyx
                obtain ⟨d, hd⟩ : ∃ d, dist' y = d := ⟨_, rfl⟩
                rw [hd] at cD'
                have HS := hide (S5.mk hd hK' cP' cD' L')
                clear hd hK' cP' cD' L'
                have nd : ((d : Int) != (d : Int)) = false := by simp
                have nb : (decide ((0 : Int) < (d : Int)) != decide ((0 : Int) < (d : Int))) = false := by simp
                have hyx' : (y : Int) < (x : Int) := by omega
                go_region_held3 (fun W => W.cell? ⟨bP, y, none⟩ = some (.pointer (some ⟨f.b y, 0, none⟩)) ∧ W.cell? ⟨bD, y, none⟩ = some (.int .i64 (d : Nat)) ∧ Hid (L5Y w0 n x (i + 1) K.pk bP bS bD bC g f y d W))
                  (first | exact S5.keep (unhide HS) ((Kept.refl _ _).drew) | assumption | exact S5.keep (unhide HS) (Kept.refl _ _))
                  (first | (go_at_call 22; refine (S5.wanted hyx (by assumption)).mono ?_; rintro e w5 ⟨rfl, rfl⟩))
                have hS1 : w4.drew.cell? ⟨bP, y, none⟩ = some (.pointer (some ⟨f.b y, 0, none⟩)) ∧ w4.drew.cell? ⟨bD, y, none⟩ = some (.int .i64 (d : Nat)) ∧ Hid (L5Y w0 n x (i + 1) K.pk bP bS bD bC g f y d w4.drew) := by assumption
                have HS1 := hide hS1
                clear hS1 HS
                go_upto_region 39 with fail
                generalize w4.drew = w5 at *
                go_region_held3 (fun W => W.cell? ⟨bP, y, none⟩ = some (.pointer (some ⟨f.b y, 0, none⟩)) ∧ W.cell? ⟨bD, y, none⟩ = some (.int .i64 (d : Nat)) ∧ Hid (L5Y w0 n x (i + 1) K.pk bP bS bD bC g f y d W))
                  (first | exact S5.keep (unhide HS1) ((Kept.refl _ _).drew) | assumption | exact S5.keep (unhide HS1) (Kept.refl _ _))
                  (first | (go_at_call 23; refine (S5.interesting _ hyx (by assumption)).mono ?_; rintro e w6 ⟨rfl, rfl⟩))
                have hS2 : w5.drew.cell? ⟨bP, y, none⟩ = some (.pointer (some ⟨f.b y, 0, none⟩)) ∧ w5.drew.cell? ⟨bD, y, none⟩ = some (.int .i64 (d : Nat)) ∧ Hid (L5Y w0 n x (i + 1) K.pk bP bS bD bC g f y d w5.drew) := by assumption
                have HS2 := hide hS2
                clear hS2 HS1
                go_wp2_with fail
                go_roundw
                case rel =>
                  obtain ⟨_, _, K2, col2, R2, H2, dist2, seen2, count2, e1, _, L2⟩ := unhide HS2
                  exact ⟨i + 1, by omega, by go_num, K2, col2, g, f, R2, H2, dist2, seen2, count2, e1, L2⟩
                case measure => simp [intOf]; omega
            · obtain rfl : i = k := by omega
              have HL := hide L
              clear L HR Hz1 Hz2
              go_wp2_with fail
              go_loopw [24] (fun j wr => ∃ v : Nat, v ≤ x ∧ j = .int .i64 v ∧ Hid (L5 w0 wr n x i K bP bS bD bC col g f R H dist seen count)) (fun j _ => x - (intOf j).toNat)
              case atStart => exact ⟨0, Nat.zero_le _, rfl, unhide HL⟩
              case round =>
                clear HL
                rename_i wrA wr
                obtain ⟨v, hv, rfl, HL⟩ := hrel
                by_cases hlt : v < x
                · have hvx' : (v : Int) < (x : Int) := by omega
                  have HS := hide (S6.mk hlt (unhide HL))
                  obtain ⟨d, hd⟩ : ∃ d, dist v = d := ⟨_, rfl⟩
                  have nd : ((d : Int) != (d : Int)) = false := by simp
                  rw [hd] at HS
                  go_upto_region 44 with fail
                  go_region_held3 (fun W => W.cell? ⟨bP, v, none⟩ = some (.pointer (some ⟨f.b v, 0, none⟩)) ∧ W.cell? ⟨bD, v, none⟩ = some (.int .i64 (d : Nat)) ∧ Hid (L5 w0 W n x i K bP bS bD bC col g f R H dist seen count))
                    (first | exact S6.keep (unhide HS) ((Kept.refl _ _).drew) | assumption | exact S6.keep (unhide HS) (Kept.refl _ _))
                    (first | (go_at_call 22; refine (S6.wanted hlt hd (by assumption)).mono ?_; rintro e w5 ⟨rfl, rfl⟩))
                  have HL1 : Hid (L5 w0 wr.drew n x i K bP bS bD bC col g f R H dist seen count) := (unhide HL).same ((Kept.refl _ _).drew) (Nat.le_refl _)
                  clear HL HS
                  generalize wr.drew = wr1 at *
                  obtain ⟨N, hN⟩ : ∃ N, v * n = N := ⟨_, rfl⟩
                  have eN : (v : Int) * (n : Int) = (N : Int) := by rw [← hN]; exact (Int.natCast_mul v n).symm
                  go_wp2_with fail
                  go_loopw [25] (fun j wr => ∃ u : Nat, u ≤ n ∧ j = .int .i64 u ∧ Hid (L5 w0 wr n x i K bP bS bD bC col g f R H dist seen count)) (fun j _ => n - (intOf j).toNat)
                  case atStart => exact ⟨0, Nat.zero_le _, rfl, unhide HL1⟩
                  case round =>
                    clear HL1
                    rename_i wrB wr2
                    obtain ⟨u, hu, rfl, HL⟩ := hrel
                    by_cases hltu : u < n
                    · have hun' : (u : Int) < (n : Int) := by omega
                      have hNu : N + u < M := by rw [← hN, ← hM]; exact idx_lt hlt hltu
                      have hNu' : (N : Int) + (u : Int) < (M : Int) := by omega
                      have eT : ((N : Int) + (u : Int)).toNat = N + u := by omega
                      have eW : IntKind.i64.wrap ((N : Int) + (u : Int)) = (N : Int) + (u : Int) := by rw [IntKind.wrap_i64]; omega
                      have eV : IntKind.i64.wrap (N : Int) = (N : Int) := by rw [IntKind.wrap_i64]; omega
                      have e0 : (0 : Int) ≤ (N : Int) + (u : Int) := by omega
                      have nq : (H v u != H v u) = false := by simp
                      have HS := hide (S7.mk hlt hltu (unhide HL))
                      rw [hN] at HS
                      go_upto_region 49 with fail
                      go_region_held3 (fun W => W.cell? ⟨bP, v, none⟩ = some (.pointer (some ⟨f.b v, 0, none⟩)) ∧ W.cell? ⟨bS, N + u, none⟩ = some (.bool (H v u)) ∧ Hid (L5 w0 W n x i K bP bS bD bC col g f R H dist seen count))
                        (first | exact S7.keep (unhide HS) ((Kept.refl _ _).drew) | assumption | exact S7.keep ‹_› (unhide ‹_›) | exact S7.keep (unhide HS) (Kept.refl _ _))
                        (first | (go_at_call 24; refine (S7.has hn hlt hltu (by assumption)).mono ?_; rintro e w5 ⟨rfl, hk5⟩; have HK5 := hide hk5; clear hk5))
                      have hS2 : w5.cell? ⟨bP, v, none⟩ = some (.pointer (some ⟨f.b v, 0, none⟩)) ∧ w5.cell? ⟨bS, N + u, none⟩ = some (.bool (H v u)) ∧ Hid (L5 w0 w5 n x i K bP bS bD bC col g f R H dist seen count) := by assumption
                      have HS2 := hide hS2
                      clear hS2 HS HL
                      go_wp2_with fail
                      go_roundw
                      case rel => exact ⟨u + 1, by omega, by go_num, (unhide HS2).2.2⟩
                      case measure => simp [intOf]; omega
                    · go_wp2_with fail
                      go_roundw
                      case rel => exact ⟨v + 1, by omega, by go_num, unhide HL⟩
                      case measure => simp [intOf]; omega
                · have L := unhide HL
                  have Hra := hide (zzrarity_any K n R wr L.side.pk)
                  have hrar := L.side.pk.rar
                  have hrn := L.side.pk.rn
                  have hcr := L.cr
                  rw [← hrn] at hcr
                  have Ho := hide (zzorder_any K.br K.bR K.bp K.bo K.bq K.bg K.bs K.cap R wr hrar)
                  have Hp := hide (zzpos_any K.br K.bR K.bp K.bo K.bq K.bg K.bs K.cap R wr hrar)
                  have Hg := hide (zzgroup_any K.br K.bR K.bp K.bo K.bq K.bg K.bs K.cap R wr hrar)
                  have Hs := hide (zzstart_any K.br K.bR K.bp K.bo K.bq K.bg K.bs K.cap R wr hrar)
                  have Hm := hide (matches_any K.bo K.bq K.bg K.bs bC K.cap R count L.side.pk.inv (by rw [hrn]; exact L.grp) (by omega) (by have := L.len; omega) wr ⟨hrar.order, hrar.pos, hrar.group, hrar.start, hcr⟩)
                  have HB := hide L.bel
                  rw [hrn] at Ho Hp Hg Hm
                  clear L HL hrar hrn hcr
                  go_wp2_with fail
                  refine (unhide Hra).mono ?_
                  rintro e _ ⟨rfl, rfl⟩
                  go_wp2_with fail
                  refine (unhide Ho).mono ?_
                  rintro e _ ⟨rfl, rfl⟩
                  go_wp2_with fail
                  refine (unhide Hp).mono ?_
                  rintro e _ ⟨rfl, rfl⟩
                  go_wp2_with fail
                  refine (unhide Hg).mono ?_
                  rintro e _ ⟨rfl, rfl⟩
                  go_wp2_with fail
                  refine (unhide Hs).mono ?_
                  rintro e _ ⟨rfl, rfl⟩
                  go_wp2_with fail
                  refine (unhide Hm).mono ?_
                  rintro e w4 ⟨rfl, hb4⟩
                  go_wp2_with fail
                  go_ret
                  exact ⟨rfl, (unhide HB).trans (hb4.mono (unhide HB).size)⟩
end Go.Proofs.Qxb6616210a
