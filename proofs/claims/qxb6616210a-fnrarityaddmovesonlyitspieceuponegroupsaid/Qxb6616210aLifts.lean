/-
  THE LAW FnRarityAddMovesOnlyItsPieceUpOneGroup (4): its walk.
-/
import Derived.Test.Qxb6616210aRun
namespace Go.Proofs.Qxb6616210a
open Go.RowKit Go.Lib
theorem dif_lt (f g : Nat → Nat) : ∀ n, dif f g n ≤ n
  | 0 => Nat.le_refl _
  | n + 1 => by
    have := dif_lt f g n
    simp only [dif]
    split <;> omega
theorem top_no {f : Nat → Nat} {x j : Nat} (h : f x < f j) : (false = true) ↔ ∀ y, y < j + 1 → f y ≤ f x := ⟨fun h => (by cases h), fun k => by have := k j (by omega); omega⟩
theorem top_keep {f : Nat → Nat} {x j : Nat} {tb : Bool} (h : tb = true ↔ ∀ y, y < j → f y ≤ f x) (hj : f j ≤ f x) : tb = true ↔ ∀ y, y < j + 1 → f y ≤ f x :=
  h.trans ⟨fun k => ext_lt k hj, fun k y hy => k y (by omega)⟩
set_option maxRecDepth 100000 in
set_option maxHeartbeats 4000000 in
theorem law2_main (n s1 s2 x : Nat) (hn : n ≤ 65536) (h1 : s1 < 18446744073709551616) (h2 : s2 < 18446744073709551616) (hx : x < n) (a : Option Addr) (len cap : Nat) (hlen : len ≤ 65536) (z : Nat → Int) (w : World) (hz : Elems w a len z) :
    Calls Try.prog 4 #[.int .i64 n, .int .u64 s1, .int .u64 s2, .slice a len cap, .int .i64 x] w fun e w' => e = .returned (.bool true) ∧ Below w.heap.size w w' := by
  have Hz := hide hz
  have Hby := bytes2_any n s1 s2 x a len cap (by omega) w
  rw [decide_eq_true (show len ≤ 1048576 by omega)] at Hby
  have Hb := hide Hby
  have Hnew := hide (zznew_any n s1 s2 (by omega) h1 h2 w)
  have hx' : (x : Int) < (n : Int) := by omega
  clear hz Hby
  go_enter Try.func4, Try.ntmps4
  go_wp2_with fail
  refine (unhide Hb).mono ?_
  rintro e w0 ⟨rfl, rfl⟩
  go_wp2_with fail
  go_loop [11] (fun j => ∃ k : Nat, k ≤ len ∧ j = .int .i64 k ∧ Hid (∀ i, i < k → 0 ≤ z i ∧ z i < n)) (fun j => len - (intOf j).toNat)
  case atStart => exact ⟨0, Nat.zero_le _, rfl, fun i hi => by omega⟩
  case round =>
    obtain ⟨k, hk, rfl, HR⟩ := hrel
    by_cases hlt : k < len
    · obtain ⟨b, off, rfl, _, cz⟩ := unhide Hz k hlt
      have hk' : (k : Int) < (len : Int) := by omega
      go_wp2_with fail
      all_goals first
        | (go_ret; exact ⟨rfl, Below.refl _ _⟩)
        | (go_round
           case rel => exact ⟨k + 1, by omega, by go_num, ext_lt (unhide HR) (by omega)⟩
           case measure => simp [intOf]; omega)
    · obtain rfl : k = len := by omega
      go_wp2_with fail
      refine (unhide Hnew).mono ?_
      rintro e w1 ⟨bR, bp, br, bo, bq, bg, bs, p', q, S', rfl, hsh, hbij, hRar, hb1, l1, l2, l3, l4, l5, l6, l7⟩
      have H0 := hide (RunAt.start z hbij hRar hb1 l2 l3 l4 l5 l6 l7)
      clear hsh hbij hRar hb1 l1 l2 l3 l4 l5 l6 l7 Hnew Hb
      go_wp2_with fail
      go_loopw [13] (fun j wr => ∃ i : Nat, i ≤ k ∧ j = .int .i64 i ∧ Hid (RunSt w0 z n br bR bp bo bq bg i wr)) (fun j _ => k - (intOf j).toNat)
      case atStart => exact ⟨0, Nat.zero_le _, rfl, _, _, _, unhide H0⟩
      case round =>
        clear H0
        obtain ⟨i, hi, rfl, HL⟩ := hrel
        obtain ⟨bs2, cap2, R, L⟩ := unhide HL
        clear HL
        by_cases hlt : i < k
        · obtain ⟨z0, zn⟩ := unhide HR i hlt
          obtain ⟨m, hm⟩ := Int.eq_ofNat_of_zero_le z0
          obtain ⟨b, off, rfl, cz⟩ := (unhide Hz).below L.bel hlt
          rw [hm] at cz zn
          have hmn : m < n := by omega
          have hi' : (i : Int) < (k : Int) := by omega
          have Hadd := hide (zzadd_any br bR bp bo bq bg bs2 cap2 R L.inv (by rw [L.rn]; omega) (by have := L.len; omega) m (by rw [L.rn]; exact hmn) wr L.rar)
          have HL := hide L
          have Hm := hide hm
          clear L hm z0
          go_wp2_with fail
          refine (unhide Hadd).mono ?_
          rintro e w2 ⟨rfl, v, S2, bs3, cap3, hRo, hRar2, hbs3, hK2⟩
          have HLA := hide ((unhide HL).added (unhide Hm) hmn hRo hRar2 hbs3 hK2)
          clear hRo hRar2 hbs3 hK2 Hadd
          go_wp2_with fail
          go_roundw
          case rel => exact ⟨i + 1, by omega, by go_num, bs3, cap3, _, unhide HLA⟩
          case measure => simp [intOf]; omega
        · obtain rfl : i = k := by omega
          clear hlt hi HR
          have hrn := L.rn
          subst hrn
          have hR2 : R.len ≤ 65539 := by have := L.len; omega
          have r1 := L.rar
          have Hget := hide (zzorder_any br bR bp bo bq bg bs2 cap2 R wr r1)
          have Hcp := hide (copy_any bo R.n R.n R.order (by omega) wr r1.order.lt (fun _ h => r1.order.cell h))
          have HL := hide L
          have A1 := hide r1
          clear L r1
          go_wp2_with fail
          refine (unhide Hget).mono ?_
          rintro e wr ⟨rfl, rfl⟩
          go_wp2_with fail
          refine (unhide Hcp).mono ?_
          rintro e w4 ⟨rfl, hb4, co4⟩
          clear Hget Hcp
          have r4 := (unhide A1).below hb4
          have Hget := hide (zzpos_any br bR bp bo bq bg bs2 cap2 R w4 r4)
          have Hcp := hide (copy_any bq R.n R.n R.pos (by omega) w4 r4.pos.lt (fun _ h => r4.pos.cell h))
          have B4 := hide hb4
          have C4 := hide co4
          have A4 := hide r4
          clear hb4 co4 r4
          go_wp2_with fail
          refine (unhide Hget).mono ?_
          rintro e w4 ⟨rfl, rfl⟩
          go_wp2_with fail
          refine (unhide Hcp).mono ?_
          rintro e w5 ⟨rfl, hb5, co5⟩
          clear Hget Hcp
          have r5 := (unhide A4).below hb5
          have Hget := hide (zzgroup_any br bR bp bo bq bg bs2 cap2 R w5 r5)
          have Hcp := hide (copy_any bg R.n R.n R.group (by omega) w5 r5.group.lt (fun _ h => r5.group.cell h))
          have B5 := hide hb5
          have C5 := hide co5
          have A5 := hide r5
          clear hb5 co5 r5
          go_wp2_with fail
          refine (unhide Hget).mono ?_
          rintro e w5 ⟨rfl, rfl⟩
          go_wp2_with fail
          refine (unhide Hcp).mono ?_
          rintro e w6 ⟨rfl, hb6, co6⟩
          clear Hget Hcp
          have r6 := (unhide A5).below hb6
          have Hget := hide (zzstart_any br bR bp bo bq bg bs2 cap2 R w6 r6)
          have Hcp := hide (copy_any bs2 R.len cap2 R.start (by omega) w6 r6.start.lt (fun _ h => r6.start.cell h))
          have B6 := hide hb6
          have C6 := hide co6
          have A6 := hide r6
          clear hb6 co6 r6
          go_wp2_with fail
          refine (unhide Hget).mono ?_
          rintro e w6 ⟨rfl, rfl⟩
          go_wp2_with fail
          refine (unhide Hcp).mono ?_
          rintro e w7 ⟨rfl, hb7, co7⟩
          clear Hget Hcp
          have r7 := (unhide A6).below hb7
          have Hadd := hide (zzadd_any br bR bp bo bq bg bs2 cap2 R (unhide HL).inv (by omega) (by omega) x hx w7 r7)
          have c4 := (((unhide C4).below (unhide B5)).below (unhide B6)).below hb7
          have c5 := ((unhide C5).below (unhide B6)).below hb7
          have c6 := (unhide C6).below hb7
          have y4 := (unhide B4).size
          have y5 := (unhide B5).size
          have y6 := (unhide B6).size
          have b7 : Below wr.heap.size wr w7 := (unhide B4).trans (((unhide B5).mono y4).trans (((unhide B6).mono (Nat.le_trans y4 y5)).trans (hb7.mono (Nat.le_trans y4 (Nat.le_trans y5 y6)))))
          have q1 := lt_of_some (unhide A1).obj
          have q2 := lt_of_some (unhide A1).pcg
          have q3 := (unhide A1).order.lt
          have q4 := (unhide A1).pos.lt
          have q5 := (unhide A1).group.lt
          have q6 := (unhide A1).start.lt
          have mkS := fun (W5 : World) (bs5 cap5 v S' : Nat) (h5 : RarAt W5 br bR bp bo bq bg bs5 cap5 (addR R x v S')) hK => Snap.mk' (H := wr.heap.size) ⟨q1, q2, q3, q4, q5, q6, Nat.le_refl _, y4, by omega, by omega⟩ c4 c5 c6 co7 h5 hK
          have HS := hide mkS
          have HB := hide ((unhide HL).bel.trans (b7.mono (unhide HL).bel.size))
          have HI := hide (unhide HL).inv
          have HG := hide ((unhide HL).grp x hx)
          have HO := hide (unhide HL).old
          clear mkS b7 c4 c5 c6 co7 y4 y5 y6 q1 q2 q3 q4 q5 q6 r7 hb7 A4 A5 A6 B4 B5 B6 C4 C5 C6 A1 HL
          generalize wr.heap.size = co at *
          generalize w4.heap.size = cp at *
          generalize w5.heap.size = cg at *
          generalize w6.heap.size = cs at *
          go_wp2_with fail
          refine (unhide Hadd).mono ?_
          rintro e w8 ⟨rfl, v, S2, bs8, cap8, hRo, hRar8, hbs8, hK8⟩
          have hS := unhide HS w8 bs8 cap8 v S2 hRar8 hK8
          have hM := addR_moved (S' := S2) (unhide HI) hx (hRo.lt (room_pos (unhide HI) hx R.S).1)
          obtain ⟨o1, o2, o3, o4, o5, o6⟩ := unhide HO
          have hB8 : Below w0.heap.size w0 w8 := (unhide HB).trans (hK8.below _ (unhide HB).size (fun i hi hF => by rcases hF with e | e | e | e | e | e <;> omega))
          have H1 := zzorder_any br bR bp bo bq bg bs8 cap8 _ w8 hRar8
          have H2 := zzpos_any br bR bp bo bq bg bs8 cap8 _ w8 hRar8
          have H3 := zzgroup_any br bR bp bo bq bg bs8 cap8 _ w8 hRar8
          have H4 := zzstart_any br bR bp bo bq bg bs8 cap8 _ w8 hRar8
          rw [addR_n] at H1 H2 H3
          have G1 := hide H1
          have G2 := hide H2
          have G3 := hide H3
          have G4 := hide H4
          have HM := hide hM
          have HSn := hide hS
          have Bel := hide hB8
          clear H1 H2 H3 H4 hM hS hB8 o1 o2 o3 o4 o5 o6 hRo hRar8 hbs8 hK8 HS HB HO Hadd
          generalize addR R x v S2 = T at *
          go_wp2_with fail
          refine (unhide G1).mono ?_
          rintro e w8 ⟨rfl, rfl⟩
          go_wp2_with fail
          refine (unhide G2).mono ?_
          rintro e w8 ⟨rfl, rfl⟩
          go_wp2_with fail
          refine (unhide G3).mono ?_
          rintro e w8 ⟨rfl, rfl⟩
          go_wp2_with fail
          refine (unhide G4).mono ?_
          rintro e W ⟨rfl, rfl⟩
          clear G1 G2 G3 G4
          go_wp2_with fail
          go_loop [22, 23] (fun c j => ∃ k : Nat, k ≤ i ∧ j = .int .i64 k ∧ c = .int .i64 (occ z x k : Nat)) (fun _ j => i - (intOf j).toNat)
          case atStart => exact ⟨0, Nat.zero_le _, rfl, rfl⟩
          case round =>
            obtain ⟨k, hk, rfl, rfl⟩ := hrel
            have ho := occ_le z x k
            by_cases hlt : k < i
            · obtain ⟨b, off, rfl, cz⟩ := (unhide Hz).below (unhide Bel) hlt
              have hk' : (k : Int) < (i : Int) := by omega
              by_cases e : z k = (x : Int)
              · have q : (z k == (x : Int)) = true := by simp [e]
                have hoc : occ z x (k + 1) = occ z x k + 1 := by simp [occ, e]
                have HE := hide e
                have HC := hide hoc
                clear e hoc
                go_wp2_with fail
                go_round
                case rel => exact ⟨k + 1, by omega, by go_num, by rw [unhide HC]; go_num⟩
                case measure => simp [intOf]; omega
              · have q : (z k == (x : Int)) = false := by simp [e]
                have hoc : occ z x (k + 1) = occ z x k := by simp [occ, e]
                have HC := hide hoc
                clear e hoc
                go_wp2_with fail
                go_round
                case rel => exact ⟨k + 1, by omega, by go_num, by rw [unhide HC]⟩
                case measure => simp [intOf]; omega
            · obtain rfl : k = i := by omega
              have ec : ((occ z x k : Nat) : Int) + 1 = ((R.group x : Nat) : Int) := by rw [unhide HG]; omega
              have hgb : R.group x ≤ 65537 := by rw [unhide HG]; omega
              have HEc := hide ec
              clear ec
              go_upto_region 37 with fail
              rw [unhide HEc]
              clear HEc HG ho
              have cog := (unhide HSn).og.cell hx
              have ctg : W.cell? ⟨bg, x, none⟩ = some (.int .i64 ((R.group x : Int) + 1)) := by
                have := (unhide HSn).tg.cell hx
                rw [(unhide HM).grpI] at this
                rw [this]; simp
              go_wp2_with fail
              clear cog ctg
              go_loopw [25, 26] (fun t j wr => ∃ (k : Nat) (tb : Bool) (m : Nat), k ≤ R.n ∧ t = .bool tb ∧ j = .int .i64 k ∧ wr = W.drewN m ∧ Hid (tb = true ↔ ∀ y, y < k → R.group y ≤ R.group x)) (fun _ j _ => R.n - (intOf j).toNat)
              case atStart => exact ⟨0, true, 0, Nat.zero_le _, rfl, rfl, rfl, ⟨fun _ y hy => by omega, fun _ => rfl⟩⟩
              case round =>
                obtain ⟨j, tb, m, hj, rfl, rfl, rfl, HT⟩ := hrel
                by_cases hlt : j < R.n
                · have cog := (unhide HSn).og.cell hlt
                  have ctg := (unhide HSn).tg.cell hlt
                  have hj' : (j : Int) < (R.n : Int) := by omega
                  by_cases e : j = x
                  · have q : ((j : Int) != (x : Int)) = false := by simp [e]
                    clear e
                    go_wp2_with fail
                    go_quiet (fail)
                    go_wp2_with fail
                    all_goals first
                      | (go_roundw
                         case rel => exact ⟨j + 1, false, _, by omega, rfl, by go_num, rfl, top_no (by omega)⟩
                         case measure => simp [intOf]; omega)
                      | (go_roundw
                         case rel => exact ⟨j + 1, tb, _, by omega, rfl, by go_num, rfl, top_keep (unhide HT) (by omega)⟩
                         case measure => simp [intOf]; omega)
                  · have q : ((j : Int) != (x : Int)) = true := by simp; omega
                    rw [(unhide HM).grp j e] at ctg
                    have q2 : ((R.group j : Int) != (R.group j : Int)) = false := by simp
                    clear e
                    go_wp2_with fail
                    go_quiet (fail)
                    go_wp2_with fail
                    all_goals first
                      | (go_roundw
                         case rel => exact ⟨j + 1, false, _, by omega, rfl, by go_num, rfl, top_no (by omega)⟩
                         case measure => simp [intOf]; omega)
                      | (go_roundw
                         case rel => exact ⟨j + 1, tb, _, by omega, rfl, by go_num, rfl, top_keep (unhide HT) (by omega)⟩
                         case measure => simp [intOf]; omega)
                · obtain ⟨L, eL⟩ : ∃ L, R.len = L := ⟨_, rfl⟩
                  obtain ⟨M, eM⟩ : ∃ M, T.len = M := ⟨_, rfl⟩
                  have hjn : j = R.n := by omega
                  have HTT := unhide HT
                  rw [hjn] at HTT
                  clear HT hlt hj
                  have gin := (unhide HM).gin
                  have gin2 := (unhide HM).gin2
                  rw [eL] at gin hR2
                  rw [eM] at gin2
                  have d1 : (R.group x : Int) + 1 < (L : Int) := by omega
                  have d2 : (R.group x : Int) + 2 < (M : Int) := by omega
                  rw [eL, eM]
                  by_cases ht : R.group x + 2 = R.len
                  · obtain ⟨t1, t2, t3⟩ := (unhide HM).topYes ht
                    have htb : tb = true := HTT.2 t1
                    rw [eL, eM] at t2
                    rw [eL] at t3
                    have Ht3 := hide t3
                    have hLM : L ≤ M := by omega
                    have hLM1 : (L : Int) < (M : Int) := by omega
                    have q : ((M : Int) != (L : Int) + 1) = false := by rw [t2]; simp
                    have cSL : W.cell? ⟨bs8, L, none⟩ = some (.int .i64 (R.n : Nat)) := by
                      rw [← t3]
                      exact (unhide HSn).ts.cell (by rw [eM]; omega)
                    subst htb
                    clear t1 t2 t3 ht HTT
                    have EL := hide eL
                    have EM := hide eM
                    clear eL eM
                    go_wp2_with fail
                    go_loop [28] (fun j => ∃ h : Nat, h ≤ L ∧ j = .int .i64 h) (fun j => L - (intOf j).toNat)
                    case atStart => exact ⟨0, Nat.zero_le _, rfl⟩
                    case round =>
                      obtain ⟨h, hh, rfl⟩ := hrel
                      by_cases hlt : h < L
                      · have c1 := (unhide HSn).os.cell (i := h) (by rw [unhide EL]; exact hlt)
                        have c2 := (unhide HSn).ts.cell (i := h) (by rw [unhide EM]; omega)
                        have h' : (h : Int) < (L : Int) := by omega
                        have h'' : (h : Int) < (M : Int) := by omega
                        have hle := (unhide HI).le (h := h) (by rw [unhide EL]; exact hlt)
                        by_cases e : h = R.group x + 1
                        · have q1 : ((h : Int) == (R.group x : Int) + 1) = true := by rw [e]; simp
                          have e1 := (unhide HM).one
                          rw [← e] at e1
                          have es : T.start h = R.start h - 1 := by rw [e]; exact (unhide HM).startI
                          have c2' : W.cell? ⟨bs8, h, none⟩ = some (.int .i64 ((R.start h : Int) - 1)) := by
                            rw [c2, es]
                            congr 2
                            omega
                          have q2 : ((R.start h : Int) - 1 != (R.start h : Int) - 1) = false := by simp
                          clear c2 e es
                          go_wp2_with fail
                          go_round
                          case rel => exact ⟨h + 1, by omega, by go_num⟩
                          case measure => simp [intOf]; omega
                        · have q1 : ((h : Int) == (R.group x : Int) + 1) = false := by simp; omega
                          have es : T.start h = R.start h := (unhide HM).start h (by rw [unhide EL]; exact hlt) e
                          rw [es] at c2
                          clear e es
                          go_wp2_with fail
                          go_round
                          case rel => exact ⟨h + 1, by omega, by go_num⟩
                          case measure => simp [intOf]; omega
                      · obtain rfl : h = L := by omega
                        clear hlt hh
                        go_wp2_with fail
                        go_loopw [30, 31] (fun c j wr => ∃ (k : Nat) (m : Nat), k ≤ R.n ∧ j = .int .i64 k ∧ c = .int .i64 (dif T.order R.order k : Nat) ∧ wr = W.drewN m) (fun _ j _ => R.n - (intOf j).toNat)
                        case atStart => exact ⟨0, _, Nat.zero_le _, rfl, rfl, rfl⟩
                        case round =>
                          obtain ⟨y, m, hy, rfl, rfl, rfl⟩ := hrel
                          have hd := dif_lt T.order R.order y
                          by_cases hlt : y < R.n
                          · have c1 := (unhide HSn).tor.cell hlt
                            have c2 := (unhide HSn).oo.cell hlt
                            have hy' : (y : Int) < (R.n : Int) := by omega
                            by_cases e : T.order y = R.order y
                            · have q1 : ((T.order y : Int) != (R.order y : Int)) = false := by simp [e]
                              have hs : dif T.order R.order (y + 1) = dif T.order R.order y := by simp [dif, e]
                              have HD := hide hs
                              clear e hs
                              go_wp2_with fail
                              go_quiet (fail)
                              go_wp2_with fail
                              go_roundw
                              case rel => exact ⟨y + 1, _, by omega, by go_num, by rw [unhide HD], rfl⟩
                              case measure => simp [intOf]; omega
                            · have q1 : ((T.order y : Int) != (R.order y : Int)) = true := by simp; omega
                              have hs : dif T.order R.order (y + 1) = dif T.order R.order y + 1 := by simp [dif, e]
                              have HD := hide hs
                              clear e hs
                              go_wp2_with fail
                              go_quiet (fail)
                              go_wp2_with fail
                              go_roundw
                              case rel => exact ⟨y + 1, _, by omega, by go_num, by rw [unhide HD]; go_num, rfl⟩
                              case measure => simp [intOf]; omega
                          · have hyn : y = R.n := by omega
                            have h3 := (unhide HM).three
                            rw [← hyn] at h3
                            have h3' : ((dif T.order R.order y : Nat) : Int) ≤ 3 := by omega
                            clear hyn h3
                            go_wp2_with fail
                            go_loopw [32] (fun j wr => ∃ (k : Nat) (m : Nat), k ≤ R.n ∧ j = .int .i64 k ∧ wr = W.drewN m) (fun j _ => R.n - (intOf j).toNat)
                            case atStart => exact ⟨0, _, Nat.zero_le _, rfl, rfl⟩
                            case round =>
                              obtain ⟨u, m, hu, rfl, rfl⟩ := hrel
                              by_cases hlt : u < R.n
                              · have c1 := (unhide HSn).og.cell hlt
                                have c2 := (unhide HSn).tp.cell hlt
                                have c3 := (unhide HSn).op.cell hlt
                                have hu' : (u : Int) < (R.n : Int) := by omega
                                have wq : IntKind.i64.wrap ((R.group x : Int) + 1) = (R.group x : Int) + 1 := by rw [IntKind.wrap_i64]; omega
                                have step : ∀ m' : Nat, ∃ (k : Nat) (m : Nat), k ≤ R.n ∧ Value.int .i64 ((u : Int) + 1) = .int .i64 k ∧ W.drewN m' = W.drewN m := fun m' => ⟨u + 1, m', by omega, by go_num, rfl⟩
                                have Hst := hide step
                                clear step
                                by_cases e : u = x
                                · have q1 : ((u : Int) != (x : Int)) = false := by simp [e]
                                  clear e
                                  go_wp2_with fail
                                  go_quiet (fail)
                                  go_wp2_with fail
                                  go_roundw
                                  case rel => exact unhide Hst _
                                  case measure => simp [intOf]; omega
                                · have q1 : ((u : Int) != (x : Int)) = true := by simp; omega
                                  by_cases e2 : R.group u = R.group x
                                  · have q2 : ((R.group u : Int) != (R.group x : Int)) = false := by simp [e2]
                                    clear e e2
                                    go_wp2_with fail
                                    go_quiet (fail)
                                    go_wp2_with fail
                                    go_roundw
                                    case rel => exact unhide Hst _
                                    case measure => simp [intOf]; omega
                                  · have q2 : ((R.group u : Int) != (R.group x : Int)) = true := by simp; omega
                                    by_cases e3 : R.group u = R.group x + 1
                                    · have q3 : ((R.group u : Int) != (R.group x : Int) + 1) = false := by rw [e3]; simp
                                      clear e e2 e3
                                      go_wp2_with fail
                                      go_quiet (fail)
                                      go_wp2_with fail
                                      go_roundw
                                      case rel => exact unhide Hst _
                                      case measure => simp [intOf]; omega
                                    · have q3 : ((R.group u : Int) != (R.group x : Int) + 1) = true := by simp; omega
                                      have ep := (unhide HM).pos u hlt e e2 e3
                                      rw [ep] at c2
                                      have q4 : ((R.pos u : Int) != (R.pos u : Int)) = false := by simp
                                      clear e e2 e3 ep
                                      go_wp2_with fail
                                      go_quiet (fail)
                                      go_wp2_with fail
                                      go_roundw
                                      case rel => exact unhide Hst _
                                      case measure => simp [intOf]; omega
                              · have plt := (unhide HM).plt
                                have plt' : (T.pos x : Int) < (R.n : Int) := by omega
                                have c1 := (unhide HSn).tp.cell hx
                                have c2 := (unhide HSn).ts.cell (i := R.group x + 1) (by rw [unhide EM]; omega)
                                have c3 := (unhide HSn).ts.cell (i := R.group x + 2) (by rw [unhide EM]; omega)
                                have c4 := (unhide HSn).tor.cell plt
                                rw [(unhide HM).back] at c4
                                have lo := (unhide HM).lo
                                have hi := (unhide HM).hi
                                have q1 : decide ((T.pos x : Int) < (T.start (R.group x + 1) : Int)) = false := by simp; omega
                                have q1' : decide (T.pos x < T.start (R.group x + 1)) = false := by simp; omega
                                have q2' : decide (T.start (R.group x + 2) ≤ T.pos x) = false := by simp; omega
                                have q2 : decide ((T.start (R.group x + 2) : Int) ≤ (T.pos x : Int)) = false := by simp; omega
                                have wq : IntKind.i64.wrap ((R.group x : Int) + 1) = (R.group x : Int) + 1 := by rw [IntKind.wrap_i64]; omega
                                have wq2 : IntKind.i64.wrap ((R.group x : Int) + 2) = (R.group x : Int) + 2 := by rw [IntKind.wrap_i64]; omega
                                have e4 : ((R.group x : Int) + 1).toNat = R.group x + 1 := by omega
                                have e5 : ((R.group x : Int) + 2).toNat = R.group x + 2 := by omega
                                have i3 : (0 : Int) ≤ (R.group x : Int) + 1 := by omega
                                have i4 : (0 : Int) ≤ (R.group x : Int) + 2 := by omega
                                have i5 : (R.group x : Int) + 1 < (M : Int) := by omega
                                clear lo hi plt
                                go_wp2_with fail
                                go_quiet (fail)
                                go_wp2_with fail
                                go_ret
                                exact ⟨by simp, below_drewN (unhide Bel) _⟩
                  · obtain ⟨⟨y, hy, hgy⟩, t2⟩ := (unhide HM).topNo ht
                    have htb : tb = false := by
                      cases tb
                      · rfl
                      · have := HTT.1 rfl y hy
                        omega
                    rw [eL, eM] at t2
                    have hLM : L ≤ M := by omega
                    have q : ((M : Int) != (L : Int)) = false := by rw [t2]; simp
                    subst htb
                    clear t2 ht HTT hy hgy
                    have EL := hide eL
                    have EM := hide eM
                    clear eL eM
                    go_wp2_with fail
                    go_loop [28] (fun j => ∃ h : Nat, h ≤ L ∧ j = .int .i64 h) (fun j => L - (intOf j).toNat)
                    case atStart => exact ⟨0, Nat.zero_le _, rfl⟩
                    case round =>
                      obtain ⟨h, hh, rfl⟩ := hrel
                      by_cases hlt : h < L
                      · have c1 := (unhide HSn).os.cell (i := h) (by rw [unhide EL]; exact hlt)
                        have c2 := (unhide HSn).ts.cell (i := h) (by rw [unhide EM]; omega)
                        have h' : (h : Int) < (L : Int) := by omega
                        have h'' : (h : Int) < (M : Int) := by omega
                        have hle := (unhide HI).le (h := h) (by rw [unhide EL]; exact hlt)
                        by_cases e : h = R.group x + 1
                        · have q1 : ((h : Int) == (R.group x : Int) + 1) = true := by rw [e]; simp
                          have e1 := (unhide HM).one
                          rw [← e] at e1
                          have es : T.start h = R.start h - 1 := by rw [e]; exact (unhide HM).startI
                          have c2' : W.cell? ⟨bs8, h, none⟩ = some (.int .i64 ((R.start h : Int) - 1)) := by
                            rw [c2, es]
                            congr 2
                            omega
                          have q2 : ((R.start h : Int) - 1 != (R.start h : Int) - 1) = false := by simp
                          clear c2 e es
                          go_wp2_with fail
                          go_round
                          case rel => exact ⟨h + 1, by omega, by go_num⟩
                          case measure => simp [intOf]; omega
                        · have q1 : ((h : Int) == (R.group x : Int) + 1) = false := by simp; omega
                          have es : T.start h = R.start h := (unhide HM).start h (by rw [unhide EL]; exact hlt) e
                          rw [es] at c2
                          clear e es
                          go_wp2_with fail
                          go_round
                          case rel => exact ⟨h + 1, by omega, by go_num⟩
                          case measure => simp [intOf]; omega
                      · obtain rfl : h = L := by omega
                        clear hlt hh
                        go_wp2_with fail
                        go_loopw [30, 31] (fun c j wr => ∃ (k : Nat) (m : Nat), k ≤ R.n ∧ j = .int .i64 k ∧ c = .int .i64 (dif T.order R.order k : Nat) ∧ wr = W.drewN m) (fun _ j _ => R.n - (intOf j).toNat)
                        case atStart => exact ⟨0, _, Nat.zero_le _, rfl, rfl, rfl⟩
                        case round =>
                          obtain ⟨y, m, hy, rfl, rfl, rfl⟩ := hrel
                          have hd := dif_lt T.order R.order y
                          by_cases hlt : y < R.n
                          · have c1 := (unhide HSn).tor.cell hlt
                            have c2 := (unhide HSn).oo.cell hlt
                            have hy' : (y : Int) < (R.n : Int) := by omega
                            by_cases e : T.order y = R.order y
                            · have q1 : ((T.order y : Int) != (R.order y : Int)) = false := by simp [e]
                              have hs : dif T.order R.order (y + 1) = dif T.order R.order y := by simp [dif, e]
                              have HD := hide hs
                              clear e hs
                              go_wp2_with fail
                              go_quiet (fail)
                              go_wp2_with fail
                              go_roundw
                              case rel => exact ⟨y + 1, _, by omega, by go_num, by rw [unhide HD], rfl⟩
                              case measure => simp [intOf]; omega
                            · have q1 : ((T.order y : Int) != (R.order y : Int)) = true := by simp; omega
                              have hs : dif T.order R.order (y + 1) = dif T.order R.order y + 1 := by simp [dif, e]
                              have HD := hide hs
                              clear e hs
                              go_wp2_with fail
                              go_quiet (fail)
                              go_wp2_with fail
                              go_roundw
                              case rel => exact ⟨y + 1, _, by omega, by go_num, by rw [unhide HD]; go_num, rfl⟩
                              case measure => simp [intOf]; omega
                          · have hyn : y = R.n := by omega
                            have h3 := (unhide HM).three
                            rw [← hyn] at h3
                            have h3' : ((dif T.order R.order y : Nat) : Int) ≤ 3 := by omega
                            clear hyn h3
                            go_wp2_with fail
                            go_loopw [32] (fun j wr => ∃ (k : Nat) (m : Nat), k ≤ R.n ∧ j = .int .i64 k ∧ wr = W.drewN m) (fun j _ => R.n - (intOf j).toNat)
                            case atStart => exact ⟨0, _, Nat.zero_le _, rfl, rfl⟩
                            case round =>
                              obtain ⟨u, m, hu, rfl, rfl⟩ := hrel
                              by_cases hlt : u < R.n
                              · have c1 := (unhide HSn).og.cell hlt
                                have c2 := (unhide HSn).tp.cell hlt
                                have c3 := (unhide HSn).op.cell hlt
                                have hu' : (u : Int) < (R.n : Int) := by omega
                                have wq : IntKind.i64.wrap ((R.group x : Int) + 1) = (R.group x : Int) + 1 := by rw [IntKind.wrap_i64]; omega
                                have step : ∀ m' : Nat, ∃ (k : Nat) (m : Nat), k ≤ R.n ∧ Value.int .i64 ((u : Int) + 1) = .int .i64 k ∧ W.drewN m' = W.drewN m := fun m' => ⟨u + 1, m', by omega, by go_num, rfl⟩
                                have Hst := hide step
                                clear step
                                by_cases e : u = x
                                · have q1 : ((u : Int) != (x : Int)) = false := by simp [e]
                                  clear e
                                  go_wp2_with fail
                                  go_quiet (fail)
                                  go_wp2_with fail
                                  go_roundw
                                  case rel => exact unhide Hst _
                                  case measure => simp [intOf]; omega
                                · have q1 : ((u : Int) != (x : Int)) = true := by simp; omega
                                  by_cases e2 : R.group u = R.group x
                                  · have q2 : ((R.group u : Int) != (R.group x : Int)) = false := by simp [e2]
                                    clear e e2
                                    go_wp2_with fail
                                    go_quiet (fail)
                                    go_wp2_with fail
                                    go_roundw
                                    case rel => exact unhide Hst _
                                    case measure => simp [intOf]; omega
                                  · have q2 : ((R.group u : Int) != (R.group x : Int)) = true := by simp; omega
                                    by_cases e3 : R.group u = R.group x + 1
                                    · have q3 : ((R.group u : Int) != (R.group x : Int) + 1) = false := by rw [e3]; simp
                                      clear e e2 e3
                                      go_wp2_with fail
                                      go_quiet (fail)
                                      go_wp2_with fail
                                      go_roundw
                                      case rel => exact unhide Hst _
                                      case measure => simp [intOf]; omega
                                    · have q3 : ((R.group u : Int) != (R.group x : Int) + 1) = true := by simp; omega
                                      have ep := (unhide HM).pos u hlt e e2 e3
                                      rw [ep] at c2
                                      have q4 : ((R.pos u : Int) != (R.pos u : Int)) = false := by simp
                                      clear e e2 e3 ep
                                      go_wp2_with fail
                                      go_quiet (fail)
                                      go_wp2_with fail
                                      go_roundw
                                      case rel => exact unhide Hst _
                                      case measure => simp [intOf]; omega
                              · have plt := (unhide HM).plt
                                have plt' : (T.pos x : Int) < (R.n : Int) := by omega
                                have c1 := (unhide HSn).tp.cell hx
                                have c2 := (unhide HSn).ts.cell (i := R.group x + 1) (by rw [unhide EM]; omega)
                                have c3 := (unhide HSn).ts.cell (i := R.group x + 2) (by rw [unhide EM]; omega)
                                have c4 := (unhide HSn).tor.cell plt
                                rw [(unhide HM).back] at c4
                                have lo := (unhide HM).lo
                                have hi := (unhide HM).hi
                                have q1 : decide ((T.pos x : Int) < (T.start (R.group x + 1) : Int)) = false := by simp; omega
                                have q1' : decide (T.pos x < T.start (R.group x + 1)) = false := by simp; omega
                                have q2' : decide (T.start (R.group x + 2) ≤ T.pos x) = false := by simp; omega
                                have q2 : decide ((T.start (R.group x + 2) : Int) ≤ (T.pos x : Int)) = false := by simp; omega
                                have wq : IntKind.i64.wrap ((R.group x : Int) + 1) = (R.group x : Int) + 1 := by rw [IntKind.wrap_i64]; omega
                                have wq2 : IntKind.i64.wrap ((R.group x : Int) + 2) = (R.group x : Int) + 2 := by rw [IntKind.wrap_i64]; omega
                                have e4 : ((R.group x : Int) + 1).toNat = R.group x + 1 := by omega
                                have e5 : ((R.group x : Int) + 2).toNat = R.group x + 2 := by omega
                                have i3 : (0 : Int) ≤ (R.group x : Int) + 1 := by omega
                                have i4 : (0 : Int) ≤ (R.group x : Int) + 2 := by omega
                                have i5 : (R.group x : Int) + 1 < (M : Int) := by omega
                                clear lo hi plt
                                go_wp2_with fail
                                go_quiet (fail)
                                go_wp2_with fail
                                go_ret
                                exact ⟨by simp, below_drewN (unhide Bel) _⟩
end Go.Proofs.Qxb6616210a
