/-
  THE LAW's OWN WALK (function 3).
-/
import Derived.Test.Qxb6616202aGet
import Derived.Test.Qxb6616202aEntry
import Derived.Test.Qxb6616202aDom
namespace Go.Proofs.Qxb6616202a
open Go.RowKit

theorem EL_nonneg {T : Nat → Int} {own ownLine : Int} {aT aL : Nat → Int} {k : Nat} (d : Dom T own ownLine aT aL k) {t : Int} (ht : 0 ≤ t) : ∀ n, 0 ≤ EL T own ownLine aT aL t n
  | 0 => by
    have h0 : 0 ≤ e0 T t := by
      unfold e0
      split
      · exact d.tree0 _ (by omega)
      · omega
    simp only [EL, e1]
    split <;> omega
  | n + 1 => by
    have := EL_nonneg d ht n
    simp only [EL]
    split <;> omega

/-- 'clockInDomain', whatever the fields. -/
theorem dom_any (T aT aL : Nat → Int) (CT CA CL : Array Value) (hT : ∀ i, i < 32 → CT[i]? = some (.int .i64 (T i))) (hA : ∀ i, i < 5 → CA[i]? = some (.int .i32 (aT i))) (hL : ∀ i, i < 5 → CL[i]? = some (.int .i64 (aL i)))
    (own ownLine : Int) (k : Nat) (size : Int) (w : World) :
    Calls Try.prog 7 #[.agg CT, .int .i32 own, .int .i64 ownLine, .agg CA, .agg CL, .int .u8 k, .int .i64 size] w fun e w' => DomPost T own ownLine aT aL k w e w' := by
  by_cases hd : k ≤ 5 ∧ 0 ≤ own ∧ 0 ≤ ownLine ∧ 0 ≤ size
  · obtain ⟨h1, h2, h3, h4⟩ := hd
    by_cases h0 : 0 < ownLine
    · exact dom_pos T aT aL CT CA CL hT hA hL own ownLine k size h1 h2 h0 h4 w
    · obtain rfl : ownLine = 0 := by omega
      exact dom_zero T aT aL CT CA CL hT hA hL own k size h1 h2 h4 w
  · exact dom_no T aT aL CT CA CL own ownLine k size hd w

theorem fives {aT : Nat → Int} (kd : IntKind) : ∀ i, i < 5 → (#[.int kd (aT 0), .int kd (aT 1), .int kd (aT 2), .int kd (aT 3), .int kd (aT 4)] : Array Value)[i]? = some (.int kd (aT i)) := by
  intro i hi
  match i, hi with
  | 0, _ => rfl
  | 1, _ => rfl
  | 2, _ => rfl
  | 3, _ => rfl
  | 4, _ => rfl

/-- The three boxes of the law's array parameters. -/
structure Boxes (w : World) (CT CA CL : Array Value) (W : World) : Prop where
  below : Below w.heap.size w W
  size : w.heap.size + 1 + 1 < W.heap.size
  tree : W.heap[w.heap.size]? = some (.cells CT 22)
  aT : W.heap[w.heap.size + 1]? = some (.cells CA 23)
  aL : W.heap[w.heap.size + 1 + 1]? = some (.cells CL 24)
theorem Boxes.then {w : World} {CT CA CL : Array Value} {W W' : World} (h : Boxes w CT CA CL W) (hb : Below W.heap.size W W') : Boxes w CT CA CL W' :=
  ⟨h.below.trans (hb.mono (by have := h.size; omega)), by have := h.size; have := hb.size; omega,
    by rw [hb.block _ (by have := h.size; omega)]; exact h.tree, by rw [hb.block _ (by have := h.size; omega)]; exact h.aT, by rw [hb.block _ (by have := h.size; omega)]; exact h.aL⟩
theorem Boxes.start (w : World) (CT CA CL : Array Value) : Boxes w CT CA CL (((w.alloc (.cells CT 22)).alloc (.cells CA 23)).alloc (.cells CL 24)) :=
  ⟨three w _ _ _, by simp, by rw [Below.heap_alloc _ _ _ (by simp <;> omega), Below.heap_alloc _ _ _ (by simp), heap_at _ _ _ rfl], by rw [Below.heap_alloc _ _ _ (by simp), heap_at _ _ _ (by simp)], by rw [heap_at _ _ _ (by simp)]⟩
/-- A whole array out of a variable, under a guard that says yes. -/
theorem load_want {P : Program} {ops : Array Oper} {rest : List Oper} {op : Oper} {a : Act} {w : World} {Q : Exit → Act → World → Prop} (ty : TypeId) (x : Operand) (ho : op.op = .load ty x)
    (b o : Nat) (hx : a.eval x = .pointer (some ⟨b, o, none⟩)) (cs : Array Value) (d : TypeDesc) (hc : w.rangeAt b o cs.toList)
    (hu : P.underlying ty = some d) (hd : d.isRow = true) (hi : (P.info? ty).map (·.size) = some cs.size)
    (hw : Region.wanted op (yielded ops a.tmps) = true)
    (h : wpList P ops Q rest (a.put op.dst (.agg cs)) w) : wpList P ops Q (op :: rest) a w :=
  BigFrame.wpList_want hw fun _ hK => wp_load_mid ty x ho b o hx cs.toList d hc hu hd (by simpa using hi) (hK _ _ (by simpa using h))

theorem Boxes.range {w : World} {CT CA CL : Array Value} {W : World} (h : Boxes w CT CA CL W) : W.rangeAt w.heap.size 0 CT.toList := by
  have h1 := World.rangeAt_of_block h.tree 0 CT.size
  simpa using h1
theorem Boxes.five {w : World} {CT CA CL : Array Value} {W : World} (h : Boxes w CT CA CL W) : (∀ j, W.cell? ⟨w.heap.size + 1, j, none⟩ = CA[j]?) ∧ (∀ j, W.cell? ⟨w.heap.size + 1 + 1, j, none⟩ = CL[j]?) :=
  ⟨fun _ => cell_of_row _ _ _ _ _ _ h.aT, fun _ => cell_of_row _ _ _ _ _ _ h.aL⟩

set_option maxRecDepth 100000 in
set_option maxHeartbeats 1000000 in
theorem walk (T aT aL : Nat → Int) (CT : Array Value) (hCT : CT.size = 32) (hT : ∀ i, i < 32 → CT[i]? = some (.int .i64 (T i)))
    (own ownLine : Int) (k : Nat) (size line t : Int) (ho2 : own < 2147483648) (ha : ∀ i, i < 5 → -2147483648 ≤ aT i ∧ aT i < 2147483648) (ht2 : t < 2147483648) (w : World) :
    Calls Try.prog 3 #[.agg CT, .int .i32 own, .int .i64 ownLine, .agg #[.int .i32 (aT 0), .int .i32 (aT 1), .int .i32 (aT 2), .int .i32 (aT 3), .int .i32 (aT 4)], .agg #[.int .i64 (aL 0), .int .i64 (aL 1), .int .i64 (aL 2), .int .i64 (aL 3), .int .i64 (aL 4)], .int .u8 k, .int .i64 size, .int .i64 line, .int .i32 t] w
      fun e w' => e = .returned (.bool true) ∧ Below w.heap.size w w' := by
  have HT := hide hT
  have Ha := hide ha
  clear hT ha
  have B0 := hide (Boxes.start w CT #[.int .i32 (aT 0), .int .i32 (aT 1), .int .i32 (aT 2), .int .i32 (aT 3), .int .i32 (aT 4)] #[.int .i64 (aL 0), .int .i64 (aL 1), .int .i64 (aL 2), .int .i64 (aL 3), .int .i64 (aL 4)])
  by_cases ht : t < 0
  · go_enter Try.func3, Try.ntmps3
    go_wp2_with fail
    go_ret
    exact ⟨rfl, (unhide B0).below⟩
  · have hw0 : Hid ((Try.prog.info? 22).map (·.size) = some CT.size) := by rw [hCT]; exact hide (by kernel_rfl)
    have HS := hide hCT
    clear hCT
    go_enter Try.func3, Try.ntmps3
    go_wp2_with (refine load_want 22 _ rfl w.heap.size 0 rfl CT _ (unhide B0).range Try.underlying22 rfl (unhide hw0) (by rfl) ?_)
    refine (dom_any T aT aL CT _ _ (unhide HT) (fives _) (fives _) own ownLine k size _).mono ?_
    rintro e w1 ⟨b, rfl, hD, hb1⟩
    have B1 := hide ((unhide B0).then hb1)
    clear B0 hb1
    cases b
    · clear hD
      go_wp2_with fail
      go_ret
      exact ⟨rfl, (unhide B1).below⟩
    have D := hide (hD rfl)
    clear hD
    obtain ⟨c1, c2⟩ := (unhide B1).five
    go_wp2_with (refine load_want 22 _ rfl w.heap.size 0 rfl CT _ (unhide B1).range Try.underlying22 rfl (unhide hw0) (by rfl) ?_)
    refine (new_any T CT (unhide HS) (unhide HT) aT aL own ownLine k size _).mono ?_
    rintro e w2 ⟨bc, bs, bk, bl, rfl, hC, hb2⟩
    have B2 := hide ((unhide B1).then hb2)
    have C2 := hide hC
    clear B1 hb2 c1 c2 hC
    obtain ⟨c1, c2⟩ := (unhide B2).five
    go_wp2_with (refine load_want 22 _ rfl w.heap.size 0 rfl CT _ (unhide B2).range Try.underlying22 rfl (unhide hw0) (by rfl) ?_)
    refine (entry_any T aT aL CT _ _ (unhide HT) (fives _) (fives _) own ownLine k (unhide D).k5 t (by omega) _).mono ?_
    rintro e w3 ⟨rfl, hb3⟩
    have B3 := hide ((unhide B2).then hb3)
    have C3 := hide ((unhide C2).below hb3)
    clear B2 hb3 c1 c2 C2
    have hE0 := EL_nonneg (unhide D) (t := t) (by omega) k
    have Hz := hide (fun (line : Int) (wx : World) (hx : ClockAt wx T own ownLine aT aL k bc bs bk bl) => zzholds_any T own ownLine aT aL k bc bs bk bl line t (by omega) ht2 ho2 (unhide Ha) (unhide D) wx hx)
    clear D Ha HT
    generalize EL T own ownLine aT aL t k = E at *
    go_wp2_with fail
    have hcase : ∃ b : Bool, b = decide (0 < line ∧ line ≤ E) ∧ ((1 ≤ line ∧ line ≤ E ∧ b = true) ∨ (1 ≤ line ∧ E < line ∧ b = false) ∨ (line < 1 ∧ b = false)) := by
      refine ⟨_, rfl, ?_⟩
      by_cases h1 : 1 ≤ line
      · by_cases h2 : line ≤ E
        · exact .inl ⟨h1, h2, by simp; omega⟩
        · exact .inr (.inl ⟨h1, by omega, by simp; omega⟩)
      · exact .inr (.inr ⟨by omega, by simp; omega⟩)
    obtain ⟨b, hb, hc⟩ := hcase
    refine (unhide Hz line w3 (unhide C3) b hb).mono ?_
    rintro e w4 ⟨rfl, hb4⟩
    have B4 := hide ((unhide B3).then hb4)
    have C4 := hide ((unhide C3).below hb4)
    clear B3 hb4 C3 hb
    by_cases hE : 1 ≤ E
    · rcases hc with ⟨h1, h2, rfl⟩ | ⟨h1, h2, rfl⟩ | ⟨h1, rfl⟩
      all_goals
        go_wp2_with fail
        refine (unhide Hz E w4 (unhide C4) true (by simp; omega)).mono ?_
        rintro e w5 ⟨rfl, hb5⟩
        have B5 := hide ((unhide B4).then hb5)
        have C5 := hide ((unhide C4).below hb5)
        clear B4 hb5 C4
        by_cases hM : E < 9223372036854775807
        · go_wp2_with fail
          refine (unhide Hz (E + 1) w5 (unhide C5) false (by simp <;> omega)).mono ?_
          rintro e w6 ⟨rfl, hb6⟩
          have B6 := hide ((unhide B5).then hb6)
          clear B5 hb6 C5
          go_wp2_with fail
          go_ret
          exact ⟨rfl, (unhide B6).below⟩
        · go_wp2_with fail
          go_ret
          exact ⟨rfl, (unhide B5).below⟩
    · rcases hc with ⟨h1, h2, rfl⟩ | ⟨h1, h2, rfl⟩ | ⟨h1, rfl⟩
      · omega
      all_goals
        go_wp2_with fail
        refine (unhide Hz (E + 1) w4 (unhide C4) false (by simp <;> omega)).mono ?_
        rintro e w6 ⟨rfl, hb6⟩
        have B6 := hide ((unhide B4).then hb6)
        clear B4 hb6 C4
        go_wp2_with fail
        go_ret
        exact ⟨rfl, (unhide B6).below⟩
end Go.Proofs.Qxb6616202a
