/-
  THE WALK OF zzRarityMatches (12): it answers true of an order that meets 'Inv'.
-/
import Derived.Test.Qxb6616210aAdd
import Derived.Deep.LoopGhost
namespace Go.Proofs.Qxb6616210a
open Go.RowKit Go.Lib

/-! ### Plain counts -/
/-- The greatest of the first k. -/
def mxc (f : Nat → Nat) : Nat → Nat
  | 0 => 0
  | k + 1 => if mxc f k < f k then f k else mxc f k
theorem mxc_ge (f : Nat → Nat) : ∀ k i, i < k → f i ≤ mxc f k
  | 0, _, h => by omega
  | k + 1, i, h => by
    simp only [mxc]
    by_cases e : i = k
    · subst e; split <;> omega
    · have := mxc_ge f k i (by omega)
      split <;> omega
theorem mxc_is (f : Nat → Nat) : ∀ k, mxc f k = 0 ∨ ∃ i, i < k ∧ mxc f k = f i
  | 0 => .inl rfl
  | k + 1 => by
    simp only [mxc]
    split
    · exact .inr ⟨k, by omega, rfl⟩
    · rcases mxc_is f k with h | ⟨i, hi, h⟩
      · exact .inl h
      · exact .inr ⟨i, by omega, h⟩
/-- How many of the first n are h. -/
def ceq (f : Nat → Nat) : Nat → Nat → Nat
  | 0, _ => 0
  | n + 1, h => ceq f n h + if f n = h then 1 else 0
theorem ceq_le (f : Nat → Nat) (h : Nat) : ∀ n, ceq f n h ≤ n
  | 0 => Nat.le_refl _
  | n + 1 => by
    have := ceq_le f h n
    simp only [ceq]
    split <;> omega
theorem cnt_succ (f : Nat → Nat) (h : Nat) : ∀ n, cnt f n (h + 1) = cnt f n h + ceq f n h
  | 0 => rfl
  | n + 1 => by
    have := cnt_succ f h n
    simp only [cnt, ceq]
    split <;> split <;> split <;> omega
theorem Inv.lenMax {R : RS} (I : Inv R) (count : Nat → Nat) (hc : ∀ j, j < R.n → R.group j = count j + 1) : R.len = mxc count R.n + 3 := by
  have h1 : ∀ j, j < R.n → count j + 3 ≤ R.len := fun j hj => by have := I.grp j hj; rw [hc j hj] at this; omega
  have h2 := I.len3
  rcases mxc_is count R.n with h | ⟨i, hi, h⟩
  · rcases I.top with t | ⟨j, hj, t⟩
    · omega
    · have := mxc_ge count R.n j hj
      rw [hc j hj] at t
      omega
  · have a := h1 i hi
    rcases I.top with t | ⟨j, hj, t⟩
    · omega
    · have := mxc_ge count R.n j hj
      rw [hc j hj] at t
      omega

/-! ### Rows of bools -/
def brow (n : Nat) (f : Nat → Bool) : Array Value := Array.ofFn (n := n) fun i => Value.bool (f i.1)
def bupd (f : Nat → Bool) (i : Nat) (v : Bool) : Nat → Bool := fun j => if j = i then v else f j
theorem bupd_same (f : Nat → Bool) (i : Nat) (v : Bool) : bupd f i v i = v := by simp [bupd]
theorem bupd_ne (f : Nat → Bool) {i j : Nat} (v : Bool) (h : j ≠ i) : bupd f i v j = f j := by simp [bupd, h]
theorem brow_size (n : Nat) (f : Nat → Bool) : (brow n f).size = n := by simp [brow]
theorem brow_get {n i : Nat} (f : Nat → Bool) (h : i < n) : (brow n f)[i]? = some (.bool (f i)) := by simp [brow, h]
theorem brow_none {n i : Nat} (f : Nat → Bool) (h : n ≤ i) : (brow n f)[i]? = none := Array.getElem?_eq_none (by rw [brow_size]; exact h)
theorem brow_set {n i : Nat} (f : Nat → Bool) (v : Bool) : (brow n f).setIfInBounds i (.bool v) = brow n (bupd f i v) := by
  apply Array.ext_getElem?
  intro j
  by_cases hj : j < n
  · rw [brow_get _ hj, Array.getElem?_setIfInBounds]
    by_cases e : i = j
    · subst e; simp [brow_size, hj, bupd]
    · have e' : ¬ j = i := fun h => e h.symm
      rw [if_neg e, brow_get _ hj]; simp [bupd, e']
  · rw [brow_none _ (by omega), Array.getElem?_eq_none (by simp [brow_size]; omega)]
def BRowAt (w : World) (b n : Nat) (f : Nat → Bool) : Prop := w.heap[b]? = some (.cells (brow n f) 4)
theorem BRowAt.keep {w w' : World} {b n : Nat} {f : Nat → Bool} (h : BRowAt w b n f) {F : Nat → Prop} (hk : Kept F w w') (hF : ¬ F b) : BRowAt w' b n f := hk.at h hF
theorem BRowAt.cell {w : World} {b n : Nat} {f : Nat → Bool} (h : BRowAt w b n f) {i : Nat} (hi : i < n) : w.cell? ⟨b, i, none⟩ = some (.bool (f i)) := by
  rw [cell_of_row _ _ _ _ _ _ h, brow_get _ hi]
theorem BRowAt.free {w : World} {b n : Nat} {f : Nat → Bool} (h : BRowAt w b n f) (i : Nat) : w.frozen? ⟨b, i, none⟩ = false := frozen_of_row _ _ _ _ _ h
theorem BRowAt.set {w : World} {b n : Nat} {f : Nat → Bool} (h : BRowAt w b n f) (i : Nat) (v : Bool) : BRowAt (w.setCell ⟨b, i, none⟩ (.bool v)) b n (bupd f i v) := by
  unfold BRowAt
  rw [heap_setCell_same _ _ _ _ _ _ h, brow_set]

theorem Try.info4 : (Try.prog.info? 4).map (fun i => (i.zero, i.size, i.bytes)) = some (some (.bool false), 1, 1) := by kernel_rfl
theorem made_brow (n : Nat) : madeCells #[.bool false] n = brow n (fun _ => false) := by
  apply Array.ext_getElem?
  intro j
  by_cases hj : j < n
  · rw [brow_get _ hj]; simp [madeCells, hj, Nat.mod_one]
  · rw [brow_none _ (by omega), Array.getElem?_eq_none (by rw [size_madeCells]; omega)]
/-- 'make([]bool, n)'. -/
theorem make_bools (n : Nat) (hn : n ≤ 281474976710656) (w : World) : (Instr.makeSlice 39 (.int .i64 (n : Int)) (.int .i64 (n : Int))).run Try.prog w = .ok (.slice (some ⟨w.heap.size, 0, none⟩) n n) (w.alloc (.cells (brow n fun _ => false) 4)) := by
  rw [run_make_row' (P := Try.prog) 39 4 (.bool false) 1 Try.underlying39 Try.info4 rfl .i64 .i64 n (by omega) (by omega) w, made_brow]

/-- What the order's five slices hold. -/
structure Five (w : World) (bo bq bg bs bc cap : Nat) (R : RS) (count : Nat → Nat) : Prop where
  order : RowAt w bo R.n R.order
  pos : RowAt w bq R.n R.pos
  group : RowAt w bg R.n R.group
  start : StartAt w bs R.len cap R.start
  count : RowAt w bc R.n count
theorem Five.below {w W : World} {bo bq bg bs bc cap : Nat} {R : RS} {count : Nat → Nat} (h : Five w bo bq bg bs bc cap R count) (hb : Below w.heap.size w W) : Five W bo bq bg bs bc cap R count := by
  have k := Kept.of_below hb
  exact ⟨h.order.keep k (Nat.not_le.2 h.order.lt), h.pos.keep k (Nat.not_le.2 h.pos.lt), h.group.keep k (Nat.not_le.2 h.group.lt), h.start.keep k (Nat.not_le.2 h.start.lt), h.count.keep k (Nat.not_le.2 h.count.lt)⟩

set_option maxRecDepth 100000 in
set_option maxHeartbeats 4000000 in
theorem matches_any (bo bq bg bs bc cap : Nat) (R : RS) (count : Nat → Nat) (I : Inv R) (hc : ∀ j, j < R.n → R.group j = count j + 1) (hn : R.n ≤ 1048576) (hlen : R.len ≤ 1048576) (w : World) (h : Five w bo bq bg bs bc cap R count) :
    Calls Try.prog 12 #[.int .i64 R.n, .slice (some ⟨bo, 0, none⟩) R.n R.n, .slice (some ⟨bq, 0, none⟩) R.n R.n, .slice (some ⟨bg, 0, none⟩) R.n R.n, .slice (some ⟨bs, 0, none⟩) R.len cap, .slice (some ⟨bc, 0, none⟩) R.n R.n] w fun e w' => e = .returned (.bool true) ∧ Below w.heap.size w w' := by
  have hmx := I.lenMax count hc
  have HI := hide I
  have Hc := hide hc
  have HF := hide h
  clear I hc h
  obtain ⟨n, en⟩ : ∃ n, R.n = n := ⟨_, rfl⟩
  obtain ⟨L, eL⟩ : ∃ L, R.len = L := ⟨_, rfl⟩
  rw [eL, en] at hmx
  rw [en] at hn ⊢
  rw [eL] at hlen ⊢
  have Hmx := hide hmx
  have En := hide en
  have EL := hide eL
  clear hmx en eL
  go_enter Try.func12, Try.ntmps12
  go_wp2_with fail
  go_loop [13, 14] (fun m j => ∃ k : Nat, k ≤ n ∧ j = .int .i64 k ∧ m = .int .i64 (mxc count k : Nat)) (fun _ j => n - (intOf j).toNat)
  case atStart => exact ⟨0, Nat.zero_le _, rfl, rfl⟩
  case round =>
    obtain ⟨k, hk, rfl, rfl⟩ := hrel
    by_cases hlt : k < n
    · have cc : w.cell? ⟨bc, k, none⟩ = some (.int .i64 (count k : Nat)) := (unhide HF).count.cell (by rw [unhide En]; exact hlt)
      have hk' : (k : Int) < (n : Int) := by omega
      have HX : Hid (mxc count (k + 1) = if mxc count k < count k then count k else mxc count k) := hide rfl
      generalize mxc count k = m at *
      go_wp2_with fail
      all_goals
        go_round
        case rel => exact ⟨k + 1, by omega, by go_num, by rw [unhide HX]; first | rw [if_pos (by omega)] | rw [if_neg (by omega)]⟩
        case measure => simp [intOf]; omega
    · obtain rfl : k = n := by omega
      have hb1 : ((L : Int) != (mxc count k : Int) + 3) = false := by have := unhide Hmx; simp; omega
      have hb2 : mxc count k ≤ 1048576 := by have := unhide Hmx; omega
      go_wp2_with fail
      clear hb1 hb2 hk hlt
      go_loopw [15] (fun j wr => ∃ i : Nat, i ≤ k ∧ j = .int .i64 i ∧ ∃ m, wr = w.drewN m) (fun j _ => k - (intOf j).toNat)
      case atStart => exact ⟨0, Nat.zero_le _, rfl, 0, rfl⟩
      case round =>
        obtain ⟨i, hi, rfl, m, rfl⟩ := hrel
        by_cases hlt : i < k
        · have hlt' : i < R.n := by rw [unhide En]; exact hlt
          have cc : w.cell? ⟨bc, i, none⟩ = some (.int .i64 (count i : Nat)) := (unhide HF).count.cell hlt'
          have cg : w.cell? ⟨bg, i, none⟩ = some (.int .i64 (R.group i : Nat)) := (unhide HF).group.cell hlt'
          have hg := unhide Hc i hlt'
          have hgl := ((unhide HI).grp i hlt').2
          have hi' : (i : Int) < (k : Int) := by omega
          have e1 : IntKind.i64.wrap ((count i : Int) + 1) = (count i : Int) + 1 := by rw [IntKind.wrap_i64]; rw [unhide EL] at hgl; omega
          have e2 : ((R.group i : Int) != (count i : Int) + 1) = false := by rw [hg]; simp
          clear hg hgl
          go_wp2_with fail
          go_quiet (fail)
          go_wp2_with fail
          go_roundw
          case rel => exact ⟨i + 1, by omega, by go_num, _, rfl⟩
          case measure => simp [intOf]; omega
        · have hmk := make_bools k (by omega)
          go_wp2_with fail
          clear hmk hlt hi
          -- the places are a permutation
          have hb0 : Below w.heap.size w ((w.alloc (.cells (brow k fun _ => false) 4)).drewN m) := below_drewN ((Below.refl _ _).alloc (Nat.le_refl _) _) _
          have hs0 : BRowAt ((w.alloc (.cells (brow k fun _ => false) 4)).drewN m) w.heap.size k (fun _ => false) := heap_at w _ _ rfl
          have hbq : bq < w.heap.size := (unhide HF).pos.lt
          go_loopw [17] (fun j wr => ∃ x : Nat, x ≤ k ∧ j = .int .i64 x ∧ Hid (Below w.heap.size w wr) ∧ ∃ sb, Hid (BRowAt wr w.heap.size k sb) ∧ Hid (∀ y, x ≤ y → y < k → sb (R.order y) = false)) (fun j _ => k - (intOf j).toNat)
          case atStart => exact ⟨0, Nat.zero_le _, rfl, hb0, _, hs0, fun _ _ _ => rfl⟩
          case round =>
            clear hb0 hs0
            obtain ⟨x, hx, rfl, HB, sb, Hsb, Hun⟩ := hrel
            by_cases hlt : x < k
            · have hlt' : x < R.n := by rw [unhide En]; exact hlt
              obtain ⟨o1, o2⟩ := (unhide HI).ordPos x hlt'
              have F := (unhide HF).below (unhide HB)
              have co := F.order.cell hlt'
              have cp := F.pos.cell o1
              rw [o2] at cp
              have cs := (unhide Hsb).cell (i := R.order x) (by rw [← unhide En]; exact o1)
              rw [unhide Hun x (Nat.le_refl _) hlt] at cs
              have fs := (unhide Hsb).free (R.order x)
              have hx' : (x : Int) < (k : Int) := by omega
              have ho' : (R.order x : Int) < (k : Int) := by rw [← unhide En]; omega
              have cp2 : (wr.setCell ⟨w.heap.size, R.order x, none⟩ (.bool true)).cell? ⟨bq, R.order x, none⟩ = some (.int .i64 (x : Nat)) :=
                (World.cell?_setCell_other wr ⟨w.heap.size, R.order x, none⟩ ⟨bq, R.order x, none⟩ _ (fun e => by have := congrArg Addr.block e; simp at this; omega)).trans cp
              clear F cp o2
              go_wp2_with fail
              go_roundw
              case rel =>
                refine ⟨x + 1, by omega, by go_num, (unhide HB).setCell (Nat.le_refl _) _, bupd sb (R.order x) true, (unhide Hsb).set _ _, fun y hy hyk => ?_⟩
                have ne : R.order y ≠ R.order x := fun e => by
                  have a := ((unhide HI).ordPos y (by rw [unhide En]; exact hyk)).2
                  have b := ((unhide HI).ordPos x hlt').2
                  rw [e, b] at a; omega
                rw [bupd_ne _ _ ne]
                exact unhide Hun y (by omega) hyk
              case measure => simp [intOf]; omega
            · have hmk := make_ints L (by omega)
              go_wp2_with fail
              clear hmk hlt hx Hsb Hun
              -- how many pieces each group has
              have hr0 : RowAt (wr.alloc (.cells (row L fun _ => 0) 3)) wr.heap.size L (fun _ => 0) := heap_at wr _ _ rfl
              have hb0 : Below w.heap.size w (wr.alloc (.cells (row L fun _ => 0) 3)) := (unhide HB).alloc (unhide HB).size _
              have hbh : w.heap.size ≤ wr.heap.size := (unhide HB).size
              clear HB
              generalize wr.heap.size = bh at *
              go_loopw [21] (fun j wq => ∃ i : Nat, i ≤ k ∧ j = .int .i64 i ∧ Hid (Below w.heap.size w wq) ∧ Hid (RowAt wq bh L (fun g => ceq R.group i g))) (fun j _ => k - (intOf j).toNat)
              case atStart => exact ⟨0, Nat.zero_le _, rfl, hb0, hr0.congr (fun _ _ => rfl)⟩
              case round =>
                clear hb0 hr0
                obtain ⟨i, hi, rfl, HB, Hr⟩ := hrel
                by_cases hlt : i < k
                · have hlt' : i < R.n := by rw [unhide En]; exact hlt
                  have hgl : R.group i < L := by have := ((unhide HI).grp i hlt').2; rw [unhide EL] at this; omega
                  have F := (unhide HF).below (unhide HB)
                  have cg := F.group.cell hlt'
                  have ch := (unhide Hr).cell hgl
                  have fh := (unhide Hr).free (R.group i)
                  have hle := ceq_le R.group (R.group i) i
                  have hi' : (i : Int) < (k : Int) := by omega
                  have hg' : (R.group i : Int) < (L : Int) := by omega
                  clear F
                  have HX : Hid (∀ h, h < L → upd (fun g => ceq R.group i g) (R.group i) (ceq R.group i (R.group i) + 1) h = ceq R.group (i + 1) h) := fun h _ => by
                    show (if h = R.group i then ceq R.group i (R.group i) + 1 else ceq R.group i h) = ceq R.group i h + if R.group i = h then 1 else 0
                    by_cases e : h = R.group i
                    · rw [if_pos e, if_pos e.symm, e]
                    · rw [if_neg e, if_neg (fun h' => e h'.symm)]; rfl
                  go_wp2_with fail
                  go_roundw
                  case rel => exact ⟨i + 1, by omega, by go_num, (unhide HB).setCell hbh _, ((unhide Hr).set (R.group i) (ceq R.group i (R.group i) + 1)).congr (unhide HX)⟩
                  case measure => simp [intOf]; omega
                · obtain rfl : i = k := by omega
                  go_wp2_with fail
                  clear hlt hi
                  -- the starts
                  go_loop [22, 23] (fun b g => ∃ h : Nat, h ≤ L ∧ g = .int .i64 h ∧ b = .int .i64 (cnt R.group i h : Nat)) (fun _ g => L - (intOf g).toNat)
                  case atStart => exact ⟨0, Nat.zero_le _, rfl, by rw [cnt_none _ _ _ (fun _ _ => Nat.zero_le _)]; rfl⟩
                  case round =>
                    obtain ⟨h, hh, rfl, rfl⟩ := hrel
                    by_cases hlt : h < L
                    · have hlt' : h < R.len := by rw [unhide EL]; exact hlt
                      have F := (unhide HF).below (unhide HB)
                      have cs := F.start.cell hlt'
                      rw [(unhide HI).count h hlt', unhide En] at cs
                      have ch := (unhide Hr).cell hlt
                      have hle := ceq_le R.group h i
                      have hle2 := cnt_le R.group h i
                      have hh' : (h : Int) < (L : Int) := by omega
                      have HX := hide (cnt_succ R.group h i)
                      clear F
                      go_wp2_with fail
                      go_round
                      case rel => exact ⟨h + 1, by omega, by go_num, by rw [unhide HX]; go_num⟩
                      case measure => simp [intOf]; omega
                    · go_wp2_with fail
                      clear hlt hh Hr
                      -- each piece lies in its group's stretch
                      obtain ⟨wo, rfl⟩ : ∃ wo : World, wo = wr := ⟨_, rfl⟩
                      go_loopw [24] (fun j wz => ∃ y : Nat, y ≤ i ∧ j = .int .i64 y ∧ ∃ m, wz = wo.drewN m) (fun j _ => i - (intOf j).toNat)
                      case atStart => exact ⟨0, Nat.zero_le _, rfl, 0, rfl⟩
                      case round =>
                        obtain ⟨y, hy, rfl, m2, rfl⟩ := hrel
                        by_cases hlt : y < i
                        · have hlt' : y < R.n := by rw [unhide En]; exact hlt
                          have F := (unhide HF).below (unhide HB)
                          obtain ⟨g1, g2⟩ := (unhide HI).grp y hlt'
                          obtain ⟨a1, a2⟩ := (unhide HI).inside y hlt'
                          have cg := F.group.cell hlt'
                          have cp := F.pos.cell hlt'
                          have cs := F.start.cell (i := R.group y) (by omega)
                          have cs1 := F.start.cell (i := R.group y + 1) (by omega)
                          rw [unhide EL] at g2
                          have hy' : (y : Int) < (i : Int) := by omega
                          have i1 : (R.group y : Int) < (L : Int) := by omega
                          have i2 : (R.group y : Int) + 1 < (L : Int) := by omega
                          have i3 : (0 : Int) ≤ (R.group y : Int) + 1 := by omega
                          have e2 : IntKind.i64.wrap ((R.group y : Int) + 1) = (R.group y : Int) + 1 := by rw [IntKind.wrap_i64]; omega
                          have e4 : ((R.group y : Int) + 1).toNat = R.group y + 1 := by omega
                          have d1 : decide ((R.pos y : Int) < (R.start (R.group y) : Int)) = false := by simp; omega
                          have d2 : decide ((R.start (R.group y + 1) : Int) ≤ (R.pos y : Int)) = false := by simp; omega
                          clear F
                          go_wp2_with fail
                          go_quiet (fail)
                          go_wp2_with fail
                          go_roundw
                          case rel => exact ⟨y + 1, by omega, by go_num, _, rfl⟩
                          case measure => simp [intOf]; omega
                        · go_wp2_with fail
                          go_ret
                          exact ⟨rfl, below_drewN (unhide HB) _⟩
end Go.Proofs.Qxb6616210a
