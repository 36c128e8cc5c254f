/-
  THE LAW FnRarityAddKeepsGroupsByCount (3): its walk.
-/
import Derived.Test.Qxb6616210aLaws
namespace Go.Proofs.Qxb6616210a
open Go.RowKit Go.Lib
theorem LawAt.drewN {w : World} {n br bR bp bo bq bg bc k : Nat} {W : World} {bs cap : Nat} {R : RS} {count : Nat → Nat} (h : LawAt w n br bR bp bo bq bg bc k W bs cap R count) (m : Nat) : LawAt w n br bR bp bo bq bg bc k (W.drewN m) bs cap R count := by
  have K : Kept (fun _ => False) W (W.drewN m) := (Kept.refl _ _).drewN m
  exact ⟨h.rar.keep K ⟨id, id, id, id, id, id, id⟩, h.inv, h.rn, h.len, h.cnt.keep K id, h.grp, h.cle, h.far, h.old, below_drewN h.bel m⟩

set_option maxRecDepth 100000 in
set_option maxHeartbeats 4000000 in
theorem law_main (n s1 s2 : Nat) (hn : n ≤ 65536) (h1 : s1 < 18446744073709551616) (h2 : s2 < 18446744073709551616) (a : Option Addr) (len cap : Nat) (hlen : len ≤ 65536) (z : Nat → Int) (w : World) (hz : Elems w a len z) :
    Calls Try.prog 3 #[.int .i64 n, .int .u64 s1, .int .u64 s2, .slice a len cap] w fun e w' => e = .returned (.bool true) ∧ Below w.heap.size w w' := by
  have Hz := hide hz
  have Hby := bytes1_any n s1 s2 a len cap (by omega) w
  rw [decide_eq_true (show len ≤ 1048576 by omega)] at Hby
  have Hb := hide Hby
  have Hnew := hide (zznew_any n s1 s2 (by omega) h1 h2 w)
  clear hz Hby
  go_enter Try.func3, Try.ntmps3
  go_wp2_with fail
  refine (unhide Hb).mono ?_
  rintro e w0 ⟨rfl, rfl⟩
  go_wp2_with fail
  go_loop [9] (fun j => ∃ k : Nat, k ≤ len ∧ j = .int .i64 k ∧ Hid (∀ i, i < k → 0 ≤ z i ∧ z i < n)) (fun j => len - (intOf j).toNat)
  case atStart => exact ⟨0, Nat.zero_le _, rfl, fun i hi => by omega⟩
  case round =>
    obtain ⟨k, hk, rfl, HR⟩ := hrel
    by_cases hlt : k < len
    · obtain ⟨b, off, rfl, _, cz⟩ := unhide Hz k hlt
      have hk' : (k : Int) < (len : Int) := by omega
      go_wp2_with fail
      all_goals first
        | (go_ret; exact ⟨rfl, Below.refl _ _⟩)
        | (go_round
           case rel => exact ⟨k + 1, by omega, by go_num, ext_lt (unhide HR) (by omega)⟩
           case measure => simp [intOf]; omega)
    · obtain rfl : k = len := by omega
      have hmk := make_ints n (by omega)
      go_wp2_with fail
      refine (unhide Hnew).mono ?_
      rintro e w1 ⟨bR, bp, br, bo, bq, bg, bs, p', q, S', rfl, hsh, hbij, hRar, hb1, l1, l2, l3, l4, l5, l6, l7⟩
      have H0 := hide (LawAt.start hbij hRar hb1 l2 l3 l4 l5 l6 l7)
      clear hsh hbij hRar hb1 l1 l2 l3 l4 l5 l6 l7 Hnew Hb
      go_wp2_with fail
      clear hmk
      generalize w1.heap.size = bc at *
      go_loopw [12] (fun j wr => ∃ i : Nat, i ≤ k ∧ j = .int .i64 i ∧ Hid (LawSt w0 n br bR bp bo bq bg bc i wr)) (fun j _ => k - (intOf j).toNat)
      case atStart => exact ⟨0, Nat.zero_le _, rfl, _, _, _, _, unhide H0⟩
      case round =>
        clear H0
        obtain ⟨i, hi, rfl, HL⟩ := hrel
        obtain ⟨bs2, cap2, R, count, L⟩ := unhide HL
        clear HL
        by_cases hlt : i < k
        · obtain ⟨z0, zn⟩ := unhide HR i hlt
          obtain ⟨m, hm⟩ := Int.eq_ofNat_of_zero_le z0
          obtain ⟨b, off, rfl, cz⟩ := (unhide Hz).below L.bel hlt
          rw [hm] at cz zn
          have hmn : m < n := by omega
          have hi' : (i : Int) < (k : Int) := by omega
          have Hadd := hide (zzadd_any br bR bp bo bq bg bs2 cap2 R L.inv (by rw [L.rn]; omega) (by have := L.len; omega) m (by rw [L.rn]; exact hmn) wr L.rar)
          have HL := hide L
          clear L hm z0
          go_wp2_with fail
          refine (unhide Hadd).mono ?_
          rintro e w2 ⟨rfl, v, S2, bs3, cap3, hRo, hRar2, hbs3, hK2⟩
          obtain ⟨LA, hrow2, hb2⟩ := (unhide HL).added hmn hRo hRar2 hbs3 hK2
          have cc := hrow2.cell hmn
          have fc := hrow2.free m
          have hcm := (unhide HL).cle m hmn
          have HLA := hide LA
          clear hRo hRar2 hbs3 hK2 Hadd hrow2 LA hb2
          go_wp2_with fail
          have ec : ((count m : Nat) : Int) + 1 = ((count m + 1 : Nat) : Int) := by omega
          rw [ec]
          have hn2 : (addR R m v S2).n = n := (unhide HLA).rn
          have Hgr := zzgroup_any br bR bp bo bq bg bs3 cap3 (addR R m v S2) _ (unhide HLA).rar
          rw [hn2] at Hgr
          have cg := (unhide HLA).rar.group.cell (show m < (addR R m v S2).n by rw [hn2]; exact hmn)
          have ck := (unhide HLA).cnt.cell hmn
          rw [(unhide HLA).grp m hmn, upd_same] at cg
          rw [upd_same] at ck
          have Hn2 := hide hn2
          clear hn2 cc fc ec
          generalize hw3 : w2.setCell ⟨bc, m, none⟩ (.int .i64 ((count m + 1 : Nat) : Int)) = w3 at *
          clear hw3
          generalize addR R m v S2 = R3 at *
          refine Hgr.mono ?_
          rintro e w3 ⟨rfl, rfl⟩
          clear Hgr
          obtain ⟨c, hc⟩ : ∃ c, count m + 1 = c := ⟨_, rfl⟩
          rw [hc] at cg ck
          have cg' : w3.cell? ⟨bg, m, none⟩ = some (.int .i64 ((c : Int) + 1)) := by rw [cg]; simp
          have n1 : ((n : Int) != (n : Int)) = false := by simp
          have n2 : ((c : Int) + 1 != (c : Int) + 1) = false := by simp
          have wr1 : IntKind.i64.wrap ((c : Int) + 1) = (c : Int) + 1 := by rw [IntKind.wrap_i64]; omega
          have hmn' : (m : Int) < (n : Int) := by omega
          clear cg
          have Hcc := hide hc
          clear hc
          go_wp2_with fail
          go_quiet (fail)
          go_wp2_with fail
          go_roundw
          case rel => exact ⟨i + 1, by omega, by go_num, bs3, cap3, _, _, (unhide HLA).drewN _⟩
          case measure => simp [intOf]; omega
        · obtain rfl : i = k := by omega
          have hrn := L.rn
          subst hrn
          have Ho := hide (zzorder_any br bR bp bo bq bg bs2 cap2 R wr L.rar)
          have Hp := hide (zzpos_any br bR bp bo bq bg bs2 cap2 R wr L.rar)
          have Hg := hide (zzgroup_any br bR bp bo bq bg bs2 cap2 R wr L.rar)
          have Hs := hide (zzstart_any br bR bp bo bq bg bs2 cap2 R wr L.rar)
          have Hm := hide (matches_any bo bq bg bs2 bc cap2 R count L.inv L.grp (by omega) (by have := L.len; omega) wr ⟨L.rar.order, L.rar.pos, L.rar.group, L.rar.start, L.cnt⟩)
          have HL := hide L.bel
          clear L
          go_wp2_with fail
          refine (unhide Ho).mono ?_
          rintro e _ ⟨rfl, rfl⟩
          go_wp2_with fail
          refine (unhide Hp).mono ?_
          rintro e _ ⟨rfl, rfl⟩
          go_wp2_with fail
          refine (unhide Hg).mono ?_
          rintro e _ ⟨rfl, rfl⟩
          go_wp2_with fail
          refine (unhide Hs).mono ?_
          rintro e _ ⟨rfl, rfl⟩
          go_wp2_with fail
          refine (unhide Hm).mono ?_
          rintro e w4 ⟨rfl, hb4⟩
          go_wp2_with fail
          go_ret
          exact ⟨rfl, (unhide HL).trans (hb4.mono (unhide HL).size)⟩
end Go.Proofs.Qxb6616210a
