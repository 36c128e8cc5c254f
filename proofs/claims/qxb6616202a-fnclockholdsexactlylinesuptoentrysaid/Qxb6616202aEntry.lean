/-
  THE WALK OF 'clockEntry' (function 9).
-/
import Derived.Test.Qxb6616202aPlain
namespace Go.Proofs.Qxb6616202a
open Go.RowKit

set_option maxHeartbeats 1000000 in
theorem entry_any (T aT aL : Nat → Int) (CT CA CL : Array Value) (hT : ∀ i, i < 32 → CT[i]? = some (.int .i64 (T i))) (hA : ∀ i, i < 5 → CA[i]? = some (.int .i32 (aT i))) (hL : ∀ i, i < 5 → CL[i]? = some (.int .i64 (aL i)))
    (own ownLine : Int) (k : Nat) (hk : k ≤ 5) (t : Int) (ht : 0 ≤ t) (w : World) :
    Calls Try.prog 9 #[.agg CT, .int .i32 own, .int .i64 ownLine, .agg CA, .agg CL, .int .u8 k, .int .i32 t] w fun e w' => e = .returned (.int .i64 (EL T own ownLine aT aL t k)) ∧ Below w.heap.size w w' := by
  have hTt : t < 32 → CT[t.toNat]? = some (.int .i64 (T t.toNat)) := fun h => hT t.toNat (by omega)
  clear hT
  have Hst : Hid (EL T own ownLine aT aL t 0 = if 0 < ownLine ∧ t = own ∧ (if t < 32 then T t.toNat else 0) < ownLine then ownLine else (if t < 32 then T t.toNat else 0)) := rfl
  have main : ∀ b : Bool, (t == own) = b → Calls Try.prog 9 #[.agg CT, .int .i32 own, .int .i64 ownLine, .agg CA, .agg CL, .int .u8 k, .int .i32 t] w fun e w' => e = .returned (.int .i64 (EL T own ownLine aT aL t k)) ∧ Below w.heap.size w w' := by
    intro b hb
    generalize hE : EL T own ownLine aT aL t = E at *
    have HE : Hid (∀ j, E (j + 1) = if aT j = t ∧ E j < aL j then aL j else E j) := by intro j; rw [← hE]; rfl
    clear hE
    cases b
    all_goals
      go_enter Try.func9, Try.ntmps9
      go_wp2
      all_goals
        go_loop [15, 16] (fun e i => ∃ j : Nat, j ≤ k ∧ i = .int .i64 j ∧ e = .int .i64 (E j)) (fun _ i => k - (intOf i).toNat)
        case atStart => exact ⟨0, Nat.zero_le _, rfl, by rw [Hst.out]; simp_all <;> (intros; omega)⟩
        case round =>
          obtain ⟨j, hj, rfl, rfl⟩ := hrel
          by_cases hlt : j < k
          · have hAj := hA j (by omega)
            have hLj := hL j (by omega)
            go_wp2
            all_goals
              go_round
              case rel => exact ⟨j + 1, by omega, by go_num, by rw [HE.out j]; simp_all <;> (intros; omega)⟩
              case measure => simp [intOf]; omega
          · go_wp2
            go_ret
            have : j = k := by omega
            subst this
            exact ⟨rfl, ((((Below.refl _ _).alloc (Nat.le_refl _) _).alloc (by simp) _).alloc (by simp; omega) _)⟩
  exact main _ rfl
end Go.Proofs.Qxb6616202a
