/-
  THE WALK OF 'clockInDomain' (function 7).
-/
import Derived.Test.Qxb6616202aPlain
namespace Go.Proofs.Qxb6616202a
open Go.RowKit

set_option maxHeartbeats 1000000 in
theorem dom_no (T aT aL : Nat → Int) (CT CA CL : Array Value)
    (own ownLine : Int) (k : Nat) (size : Int) (hd : ¬ (k ≤ 5 ∧ 0 ≤ own ∧ 0 ≤ ownLine ∧ 0 ≤ size)) (w : World) :
    Calls Try.prog 7 #[.agg CT, .int .i32 own, .int .i64 ownLine, .agg CA, .agg CL, .int .u8 k, .int .i64 size] w fun e w' => DomPost T own ownLine aT aL k w e w' := by
  have hk : 5 < k ∨ own < 0 ∨ ownLine < 0 ∨ size < 0 := by omega
  clear hd
  rcases hk with h | h | h | h
  all_goals
    go_enter Try.func7, Try.ntmps7
    go_wp2
    all_goals
      go_ret
      exact DomPost.no (three w _ _ _) rfl

set_option maxHeartbeats 4000000 in
set_option maxRecDepth 100000 in
theorem dom_pos (T aT aL : Nat → Int) (CT CA CL : Array Value) (hT : ∀ i, i < 32 → CT[i]? = some (.int .i64 (T i))) (hA : ∀ i, i < 5 → CA[i]? = some (.int .i32 (aT i))) (hL : ∀ i, i < 5 → CL[i]? = some (.int .i64 (aL i)))
    (own ownLine : Int) (k : Nat) (size : Int) (hk : k ≤ 5) (hown : 0 ≤ own) (hol : 0 < ownLine) (hsize : 0 ≤ size) (w : World) :
    Calls Try.prog 7 #[.agg CT, .int .i32 own, .int .i64 ownLine, .agg CA, .agg CL, .int .u8 k, .int .i64 size] w fun e w' => DomPost T own ownLine aT aL k w e w' := by
  have HTr := hide hT
  clear hT
  have hTo : own < 32 → CT[own.toNat]? = some (.int .i64 (T own.toNat)) := fun h => unhide HTr _ (by omega)
  go_enter Try.func7, Try.ntmps7
  go_wp2
  go_loop [15] (fun i => ∃ j : Nat, j ≤ 32 ∧ i = .int .i64 j ∧ Hid (∀ i, i < j → 0 ≤ T i)) (fun i => 32 - (intOf i).toNat)
  case atStart => exact ⟨0, Nat.zero_le _, rfl, fun i hi => by omega⟩
  case round =>
    obtain ⟨j, hj, rfl, HT⟩ := hrel
    by_cases hlt : j < 32
    · have hTj := unhide HTr j hlt
      go_wp2
      all_goals first
        | (go_ret; exact DomPost.no (three w _ _ _) rfl)
        | (go_round
           case rel => exact ⟨j + 1, by omega, by go_num, ext_lt HT.out (by omega)⟩
           case measure => simp [intOf]; omega)
    · have hj32 : j = 32 := by omega
      go_wp2
      all_goals first
        | (go_ret; exact DomPost.no (three w _ _ _) rfl)
        | skip
      all_goals
        have HO : Hid (0 < ownLine → own < 32 → T own.toNat ≤ ownLine) := by intro _ _; omega
        subst hj32
        go_loopw [16] (fun i wr => ∃ j : Nat, j ≤ k ∧ i = .int .i64 j ∧ Hid (Seen T own ownLine aT aL j) ∧ ∃ n, wr = World.drewN (((w.alloc (.cells CT 22)).alloc (.cells CA 23)).alloc (.cells CL 24)) n) (fun i _ => k - (intOf i).toNat)
        case atStart => exact ⟨0, Nat.zero_le _, rfl, fun i hi => by omega, 0, rfl⟩
        case round =>
          obtain ⟨j, hj, rfl, HS, n, rfl⟩ := hrel
          by_cases hlt : j < k
          · have hAj := hA j (by omega)
            have hLj := hL j (by omega)
            go_wp2
            all_goals first
              | (go_ret; exact DomPost.no (below_drewN (three w _ _ _) _) rfl)
              | skip
            all_goals
              have HX : Hid (0 ≤ aT j ∧ 0 ≤ aL j ∧ (0 < ownLine → aT j ≠ own)) := by (refine ⟨by omega, by omega, fun h => ?_⟩; first | (apply nb; assumption) | (exfalso; omega))
              go_loop [18] (fun i => ∃ m : Nat, m ≤ j ∧ i = .int .i64 m ∧ Hid (∀ q, q < m → aT q ≠ aT j)) (fun i => j - (intOf i).toNat)
              case atStart => exact ⟨0, Nat.zero_le _, rfl, fun i hi => by omega⟩
              case round =>
                obtain ⟨m, hm, rfl, HM⟩ := hrel
                by_cases hmj : m < j
                · have hAm := hA m (by omega)
                  go_wp2
                  · go_ret; exact DomPost.no (below_drewN (three w _ _ _) _) rfl
                  · go_round
                    case rel => exact ⟨m + 1, by omega, by go_num, ext_lt HM.out (nb (by assumption))⟩
                    case measure => simp [intOf]; omega
                · obtain rfl : m = j := by omega
                  by_cases ha : aT m < 32
                  · have hTa := unhide HTr (aT m).toNat (by omega)
                    have hk' : (m : Int) < 5 := by omega
                    go_wp2
                    go_quiet (fail)
                    go_wp2
                    all_goals first
                      | (go_ret; exact DomPost.no (below_drewN (three w _ _ _) _) rfl)
                      | (go_ret; exact DomPost.no (below_drewN (below_drewN (three w _ _ _) _) _) rfl)
                      | (have HY : Seen T own ownLine aT aL (m + 1) := Seen.succ HS.out HX.out.1 HX.out.2.1 HX.out.2.2 HM.out (by intro _; omega)
                         go_roundw
                         case rel => first | exact ⟨m + 1, by omega, by go_num, HY, _, rfl⟩ | ((repeat apply Exists.intro); exact ⟨⟨m + 1, by omega, by go_num, HY, _, rfl⟩, rfl⟩)
                         case measure => simp [intOf]; omega)
                  · have ha' : decide (aT m < 32) = false := by simp [ha]
                    go_wp2
                    go_quiet (fail)
                    go_wp2
                    all_goals first
                      | (go_ret; exact DomPost.no (below_drewN (three w _ _ _) _) rfl)
                      | (go_ret; exact DomPost.no (below_drewN (below_drewN (three w _ _ _) _) _) rfl)
                      | (have HY : Seen T own ownLine aT aL (m + 1) := Seen.succ HS.out HX.out.1 HX.out.2.1 HX.out.2.2 HM.out (by intro _; omega)
                         go_roundw
                         case rel => first | exact ⟨m + 1, by omega, by go_num, HY, _, rfl⟩ | ((repeat apply Exists.intro); exact ⟨⟨m + 1, by omega, by go_num, HY, _, rfl⟩, rfl⟩)
                         case measure => simp [intOf]; omega)
          · go_wp2
            go_ret
            obtain rfl : j = k := by omega
            exact DomPost.yes (Dom.mk' hk hown (by omega) HT.out HO.out HS.out) (below_drewN (three w _ _ _) _) rfl
set_option maxHeartbeats 4000000 in
set_option maxRecDepth 100000 in
theorem dom_zero (T aT aL : Nat → Int) (CT CA CL : Array Value) (hT : ∀ i, i < 32 → CT[i]? = some (.int .i64 (T i))) (hA : ∀ i, i < 5 → CA[i]? = some (.int .i32 (aT i))) (hL : ∀ i, i < 5 → CL[i]? = some (.int .i64 (aL i)))
    (own : Int) (k : Nat) (size : Int) (hk : k ≤ 5) (hown : 0 ≤ own) (hsize : 0 ≤ size) (w : World) :
    Calls Try.prog 7 #[.agg CT, .int .i32 own, .int .i64 (0 : Int), .agg CA, .agg CL, .int .u8 k, .int .i64 size] w fun e w' => DomPost T own (0 : Int) aT aL k w e w' := by
  have HTr := hide hT
  clear hT
  have hTo : own < 32 → CT[own.toNat]? = some (.int .i64 (T own.toNat)) := fun h => unhide HTr _ (by omega)
  go_enter Try.func7, Try.ntmps7
  go_wp2
  go_loop [15] (fun i => ∃ j : Nat, j ≤ 32 ∧ i = .int .i64 j ∧ Hid (∀ i, i < j → 0 ≤ T i)) (fun i => 32 - (intOf i).toNat)
  case atStart => exact ⟨0, Nat.zero_le _, rfl, fun i hi => by omega⟩
  case round =>
    obtain ⟨j, hj, rfl, HT⟩ := hrel
    by_cases hlt : j < 32
    · have hTj := unhide HTr j hlt
      go_wp2
      all_goals first
        | (go_ret; exact DomPost.no (three w _ _ _) rfl)
        | (go_round
           case rel => exact ⟨j + 1, by omega, by go_num, ext_lt HT.out (by omega)⟩
           case measure => simp [intOf]; omega)
    · have hj32 : j = 32 := by omega
      go_wp2
      all_goals first
        | (go_ret; exact DomPost.no (three w _ _ _) rfl)
        | skip
      all_goals
        have HO : Hid (0 < (0 : Int) → own < 32 → T own.toNat ≤ (0 : Int)) := by intro h _; exact absurd h (by decide)
        subst hj32
        go_loopw [16] (fun i wr => ∃ j : Nat, j ≤ k ∧ i = .int .i64 j ∧ Hid (Seen T own (0 : Int) aT aL j) ∧ ∃ n, wr = World.drewN (((w.alloc (.cells CT 22)).alloc (.cells CA 23)).alloc (.cells CL 24)) n) (fun i _ => k - (intOf i).toNat)
        case atStart => exact ⟨0, Nat.zero_le _, rfl, fun i hi => by omega, 0, rfl⟩
        case round =>
          obtain ⟨j, hj, rfl, HS, n, rfl⟩ := hrel
          by_cases hlt : j < k
          · have hAj := hA j (by omega)
            have hLj := hL j (by omega)
            go_wp2
            all_goals first
              | (go_ret; exact DomPost.no (below_drewN (three w _ _ _) _) rfl)
              | skip
            all_goals
              have HX : Hid (0 ≤ aT j ∧ 0 ≤ aL j ∧ (0 < (0 : Int) → aT j ≠ own)) := by (refine ⟨by omega, by omega, fun h => absurd h (by decide)⟩)
              go_loop [18] (fun i => ∃ m : Nat, m ≤ j ∧ i = .int .i64 m ∧ Hid (∀ q, q < m → aT q ≠ aT j)) (fun i => j - (intOf i).toNat)
              case atStart => exact ⟨0, Nat.zero_le _, rfl, fun i hi => by omega⟩
              case round =>
                obtain ⟨m, hm, rfl, HM⟩ := hrel
                by_cases hmj : m < j
                · have hAm := hA m (by omega)
                  go_wp2
                  · go_ret; exact DomPost.no (below_drewN (three w _ _ _) _) rfl
                  · go_round
                    case rel => exact ⟨m + 1, by omega, by go_num, ext_lt HM.out (nb (by assumption))⟩
                    case measure => simp [intOf]; omega
                · obtain rfl : m = j := by omega
                  by_cases ha : aT m < 32
                  · have hTa := unhide HTr (aT m).toNat (by omega)
                    have hk' : (m : Int) < 5 := by omega
                    go_wp2
                    go_quiet (fail)
                    go_wp2
                    all_goals first
                      | (go_ret; exact DomPost.no (below_drewN (three w _ _ _) _) rfl)
                      | (go_ret; exact DomPost.no (below_drewN (below_drewN (three w _ _ _) _) _) rfl)
                      | (have HY : Seen T own (0 : Int) aT aL (m + 1) := Seen.succ HS.out HX.out.1 HX.out.2.1 HX.out.2.2 HM.out (by intro _; omega)
                         go_roundw
                         case rel => first | exact ⟨m + 1, by omega, by go_num, HY, _, rfl⟩ | ((repeat apply Exists.intro); exact ⟨⟨m + 1, by omega, by go_num, HY, _, rfl⟩, rfl⟩)
                         case measure => simp [intOf]; omega)
                  · have ha' : decide (aT m < 32) = false := by simp [ha]
                    go_wp2
                    go_quiet (fail)
                    go_wp2
                    all_goals first
                      | (go_ret; exact DomPost.no (below_drewN (three w _ _ _) _) rfl)
                      | (go_ret; exact DomPost.no (below_drewN (below_drewN (three w _ _ _) _) _) rfl)
                      | (have HY : Seen T own (0 : Int) aT aL (m + 1) := Seen.succ HS.out HX.out.1 HX.out.2.1 HX.out.2.2 HM.out (by intro _; omega)
                         go_roundw
                         case rel => first | exact ⟨m + 1, by omega, by go_num, HY, _, rfl⟩ | ((repeat apply Exists.intro); exact ⟨⟨m + 1, by omega, by go_num, HY, _, rfl⟩, rfl⟩)
                         case measure => simp [intOf]; omega)
          · go_wp2
            go_ret
            obtain rfl : j = k := by omega
            exact DomPost.yes (Dom.mk' hk hown (by omega) HT.out HO.out HS.out) (below_drewN (three w _ _ _) _) rfl
end Go.Proofs.Qxb6616202a
