/-
  THE LIST THAT CAME IN, AND ITS CLONE: zzBytes (9), zzListTooBig (10), zzCloneList (11), zzFirstEmpty (12).
-/
import Derived.Test.Qxb6616348aProg
import Derived.WalkKit
import Derived.WalkSmall
import Derived.Below
import Derived.ProofKit
import Derived.Deep.QuietTactic
import Derived.Deep.Cut
import Derived.Deep.OwnRows
import Derived.Laws.CopyRow
import Derived.Deep.WholeRow
import Derived.Laws.Cover3
import Derived.WalkSpells
namespace Go.Proofs.Qxb6616348a
open Go.RowKit
def Hid (p : Prop) : Prop := p
theorem hide {p : Prop} (h : p) : Hid p := h
theorem unhide {p : Prop} (h : Hid p) : p := h
theorem wp_forget {P : Program} {c : Code} {Q : Exit → Act → World → Prop} {a : Act} {w : World} (S : World → Prop) (h : S w) (k : ∀ w', S w' → Code.wp P c Q a w') : Code.wp P c Q a w := k w h
theorem heap_at (w : World) (o : Obj) (i : Nat) (h : i = w.heap.size) : (w.alloc o).heap[i]? = some o := by
  subst h; exact heap_alloc_new w o
theorem bcell {w W : World} (h : Below w.heap.size w W) {p : Addr} {v : Value} (hc : w.cell? p = some v) : W.cell? p = some v := by
  rw [h.cell (block_lt_of_cell hc)]; exact hc
theorem lt_of_some {w : World} {b : Nat} {o : Obj} (h : w.heap[b]? = some o) : b < w.heap.size := by
  refine Nat.lt_of_not_le fun e => ?_
  rw [Array.getElem?_eq_none e] at h
  cases h
theorem row_keep {w W : World} (h : Below w.heap.size w W) {k : Nat} {o : Obj} (hk : w.heap[k]? = some o) : W.heap[k]? = some o := by
  rw [h.block k (lt_of_some hk), hk]
/-- The elements of the list that came in: element i is a slice of L i bytes, Z i. -/
structure InAt (w : World) (a : Option Addr) (i : Nat) (A : Nat → Option Addr) (L C : Nat → Nat) (Z : Nat → Nat → Int) : Prop where
  hdr : ∃ b off, a = some ⟨b, off, none⟩ ∧ b < w.heap.size ∧ w.cell? ⟨b, off + i, none⟩ = some (.slice (A i) (L i) (C i))
  small : L i ≤ 9223372036854775807
  nil : A i = none → L i = 0 ∧ C i = 0
  byte : ∀ a', A i = some a' → ∀ c, c < L i → w.cell? (a'.add c) = some (.int .u8 (Z i c))
def Ins (w : World) (a : Option Addr) (len : Nat) (A : Nat → Option Addr) (L C : Nat → Nat) (Z : Nat → Nat → Int) : Prop := ∀ i, i < len → InAt w a i A L C Z
theorem InAt.below {w W : World} {a : Option Addr} {i : Nat} {A : Nat → Option Addr} {L C : Nat → Nat} {Z : Nat → Nat → Int} (h : InAt w a i A L C Z) (hb : Below w.heap.size w W) : InAt W a i A L C Z := by
  obtain ⟨⟨b, off, e, hl, hc⟩, h2, h3, h4⟩ := h
  exact ⟨⟨b, off, e, Nat.lt_of_lt_of_le hl hb.size, bcell hb hc⟩, h2, h3, fun a' ha c hc => bcell hb (h4 a' ha c hc)⟩
def BoolPost (len : Nat) (L : Nat → Nat) (w : World) (e : Ending) (w' : World) : Prop := ∃ r, e = .returned (.bool r) ∧ w' = w ∧ (r = true → ∀ i, i < len → L i ≤ 1048576)
theorem ext_lt {P : Nat → Prop} {j : Nat} (h : ∀ i, i < j → P i) (hj : P j) : ∀ i, i < j + 1 → P i := fun i hi => by
  by_cases hn : i < j
  · exact h i hn
  · obtain rfl : i = j := by omega
    exact hj
set_option maxRecDepth 100000 in
set_option maxHeartbeats 1000000 in
theorem bytes_any (m : Int) (a : Option Addr) (len cap : Nat) (A : Nat → Option Addr) (L C : Nat → Nat) (Z : Nat → Nat → Int) (hl : len ≤ 9223372036854775807) (w : World) (h : Ins w a len A L C Z) :
    Calls Try.prog 9 #[.slice a len cap, .int .i64 m] w (BoolPost len L w) := by
  have H := hide h
  clear h
  by_cases q : len ≤ 1048576
  · go_enter Try.func9, Try.ntmps9
    go_wp2_with fail
    go_loop [5, 6] (fun z j => ∃ s k : Nat, k ≤ len ∧ s ≤ 1048576 ∧ z = .int .i64 s ∧ j = .int .i64 k ∧ Hid (∀ i, i < k → L i ≤ 1048576)) (fun _ j => len - (intOf j).toNat)
    case atStart => exact ⟨len, 0, Nat.zero_le _, q, rfl, rfl, fun i hi => by omega⟩
    case round =>
      obtain ⟨s, k, hk, hs, rfl, rfl, HR⟩ := hrel
      by_cases hlt : k < len
      · obtain ⟨⟨b, off, rfl, _, cz⟩, hsm, _, _⟩ := unhide H k hlt
        have hk' : (k : Int) < (len : Int) := by omega
        obtain ⟨l, hl2⟩ : ∃ l, L k = l := ⟨_, rfl⟩
        rw [hl2] at cz hsm
        have Hl2 := hide hl2
        clear hl2
        by_cases q2 : l ≤ 1048576
        · by_cases q3 : s + l ≤ 1048576
          · have q3' : (s : Int) + (l : Int) ≤ 1048576 := by omega
            go_wp2_with fail
            go_round
            case rel => exact ⟨s + l, k + 1, by omega, q3, by go_num, by go_num, ext_lt (unhide HR) (by rw [unhide Hl2]; exact q2)⟩
            case measure => simp [intOf]; omega
          · have q3' : ¬ (s : Int) + (l : Int) ≤ 1048576 := by omega
            go_wp2_with fail
            go_ret
            exact ⟨_, rfl, rfl, fun e => by simp at e⟩
        · go_wp2_with fail
          go_ret
          exact ⟨_, rfl, rfl, fun e => by simp at e⟩
      · obtain rfl : k = len := by omega
        go_wp2_with fail
        go_ret
        exact ⟨_, rfl, rfl, fun _ => unhide HR⟩
  · go_enter Try.func9, Try.ntmps9
    go_wp2_with fail
    go_ret
    exact ⟨_, rfl, rfl, fun e => by simp at e⟩
def BigPost (len : Nat) (L : Nat → Nat) (w : World) (e : Ending) (w' : World) : Prop := ∃ r, e = .returned (.bool r) ∧ w' = w ∧ (r = false → len ≤ 65536 ∧ ∀ i, i < len → L i ≤ 1048576)
set_option maxRecDepth 100000 in
set_option maxHeartbeats 1000000 in
theorem tooBig_any (a : Option Addr) (len cap : Nat) (A : Nat → Option Addr) (L C : Nat → Nat) (Z : Nat → Nat → Int) (hl : len ≤ 9223372036854775807) (hL : ∀ i, i < len → L i ≤ 4611686018427387904) (w : World) (h : Ins w a len A L C Z) :
    Calls Try.prog 10 #[.slice a len cap] w (BigPost len L w) := by
  have H := hide h
  have HL := hide hL
  clear h hL
  by_cases q : len ≤ 65536
  · go_enter Try.func10, Try.ntmps10
    go_wp2_with fail
    go_loop [3, 4] (fun z j => ∃ s k : Nat, k ≤ len ∧ s ≤ 1048576 ∧ z = .int .i64 s ∧ j = .int .i64 k ∧ Hid (∀ i, i < k → L i ≤ 1048576)) (fun _ j => len - (intOf j).toNat)
    case atStart => exact ⟨0, 0, Nat.zero_le _, by omega, rfl, rfl, fun i hi => by omega⟩
    case round =>
      obtain ⟨s, k, hk, hs, rfl, rfl, HR⟩ := hrel
      by_cases hlt : k < len
      · obtain ⟨⟨b, off, rfl, _, cz⟩, hsm, _, _⟩ := unhide H k hlt
        have hk' : (k : Int) < (len : Int) := by omega
        have hLk := unhide HL k hlt
        obtain ⟨l, hl2⟩ : ∃ l, L k = l := ⟨_, rfl⟩
        rw [hl2] at cz hsm hLk
        by_cases q3 : s + (24 + l) ≤ 1048576
        · have q3' : (s : Int) + (24 + (l : Int)) ≤ 1048576 := by omega
          have Hl2 := hide hl2
          clear hl2
          go_wp2_with fail
          go_round
          case rel => exact ⟨s + (24 + l), k + 1, by omega, q3, by go_num, by go_num, ext_lt (unhide HR) (by rw [unhide Hl2]; omega)⟩
          case measure => simp [intOf]; omega
        · have q3' : ¬ (s : Int) + (24 + (l : Int)) ≤ 1048576 := by omega
          clear hl2
          go_wp2_with fail
          go_ret
          exact ⟨_, rfl, rfl, fun e => by simp at e⟩
      · obtain rfl : k = len := by omega
        go_wp2_with fail
        go_ret
        exact ⟨_, rfl, rfl, fun _ => ⟨q, unhide HR⟩⟩
  · go_enter Try.func10, Try.ntmps10
    go_wp2_with fail
    go_ret
    exact ⟨_, rfl, rfl, fun e => by simp at e⟩

/-! ### Rows of slices -/
def hrow (n : Nat) (h : Nat → Option Addr × Nat) : Array Value := Array.ofFn (n := n) fun i => Value.slice (h i.1).1 (h i.1).2 (h i.1).2
def hupd (h : Nat → Option Addr × Nat) (i : Nat) (v : Option Addr × Nat) : Nat → Option Addr × Nat := fun j => if j = i then v else h j
theorem hrow_size (n : Nat) (h : Nat → Option Addr × Nat) : (hrow n h).size = n := by simp [hrow]
theorem hrow_get {n i : Nat} (h : Nat → Option Addr × Nat) (hi : i < n) : (hrow n h)[i]? = some (.slice (h i).1 (h i).2 (h i).2) := by simp [hrow, hi]
theorem hrow_none {n i : Nat} (h : Nat → Option Addr × Nat) (hi : n ≤ i) : (hrow n h)[i]? = none := Array.getElem?_eq_none (by rw [hrow_size]; exact hi)
theorem hrow_set {n i : Nat} (h : Nat → Option Addr × Nat) (v : Option Addr × Nat) : (hrow n h).setIfInBounds i (.slice v.1 v.2 v.2) = hrow n (hupd h i v) := by
  apply Array.ext_getElem?
  intro j
  by_cases hj : j < n
  · rw [hrow_get _ hj, Array.getElem?_setIfInBounds]
    by_cases e : i = j
    · subst e; simp [hrow_size, hj, hupd]
    · have e' : ¬ j = i := fun h => e h.symm
      rw [if_neg e, hrow_get _ hj]; simp [hupd, e']
  · rw [hrow_none _ (by omega), Array.getElem?_eq_none (by simp [hrow_size]; omega)]
theorem Try.info37 : (Try.prog.info? 37).map (fun i => (i.zero, i.size, i.bytes)) = some (some (.slice none 0 0), 1, 24) := by kernel_rfl
theorem Try.info5 : (Try.prog.info? 5).map (fun i => (i.zero, i.size, i.bytes)) = some (some (.int .u8 0), 1, 1) := by kernel_rfl
theorem made_hrow (n : Nat) : madeCells #[.slice none 0 0] n = hrow n (fun _ => (none, 0)) := by
  apply Array.ext_getElem?
  intro j
  by_cases hj : j < n
  · rw [hrow_get _ hj]; simp [madeCells, hj, Nat.mod_one]
  · rw [hrow_none _ (by omega), Array.getElem?_eq_none (by rw [size_madeCells]; omega)]
theorem make_hdrs (n : Nat) (hn : n ≤ 65536) (w : World) : (Instr.makeSlice 28 (.int .i64 (n : Int)) (.int .i64 (n : Int))).run Try.prog w = .ok (.slice (some ⟨w.heap.size, 0, none⟩) n n) (w.alloc (.cells (hrow n fun _ => (none, 0)) 37)) := by
  rw [run_make_row' (P := Try.prog) 28 37 (.slice none 0 0) 24 Try.underlying28 Try.info37 rfl .i64 .i64 n (by omega) (by omega) w, made_hrow]
theorem make_bytes (n : Nat) (hn : n ≤ 1048576) (w : World) : (Instr.makeSlice 37 (.int .i64 (n : Int)) (.int .i64 (n : Int))).run Try.prog w = .ok (.slice (some ⟨w.heap.size, 0, none⟩) n n) (w.alloc (.cells (madeCells #[.int .u8 0] n) 5)) := by
  rw [run_make_row' (P := Try.prog) 37 5 (.int .u8 0) 1 Try.underlying37 Try.info5 rfl .i64 .i64 n (by omega) (by omega) w]
/-- n bytes lie from the start of block b on. -/
def BytesAt (W : World) (b n : Nat) : Prop := ∀ j, j < n → ∃ v : Int, W.cell? ⟨b, j, none⟩ = some (.int .u8 v)
/-- Of the clone's first k elements: each has the length of the one that came in, and where it is not empty its bytes lie in a block of their own, at least B. -/
structure CloneUp (w W : World) (bL len k : Nat) (L : Nat → Nat) (h : Nat → Option Addr × Nat) : Prop where
  row : W.heap[bL]? = some (.cells (hrow len h) 37)
  done : ∀ i, i < k → (h i).2 = L i ∧ (0 < L i → ∃ b, (h i).1 = some ⟨b, 0, none⟩ ∧ bL < b ∧ BytesAt W b (L i))
  rest : ∀ i, k ≤ i → h i = (none, 0)
  old : w.heap.size ≤ bL
  bel : Below w.heap.size w W
theorem size5 : (Try.prog.info? 5).map (·.size) = some 1 := by kernel_rfl
theorem copy_bytes (w : World) (n c ty : Nat) (a : Addr) (z : Nat → Int) (hsrc : ∀ j, j < n → w.cell? (a.add j) = some (.int .u8 (z j))) :
    (Builtin.copy_ #[37, 37] ty #[.slice (some ⟨w.heap.size, 0, none⟩) n n, .slice (some a) n c]).run Try.prog (w.alloc (.cells (madeCells #[.int .u8 0] n) 5)) =
      .ok (.int .i64 n) (w.alloc (.cells (((List.range n).map fun j => Value.int .u8 (z j)).toArray) 5)) := by
  have hb : Below w.heap.size w (w.alloc (.cells (madeCells #[.int .u8 0] n) 5)) := (Below.refl _ _).alloc (Nat.le_refl _) _
  have := run_copy_row (P := Try.prog) (w.alloc (.cells (madeCells #[.int .u8 0] n) 5)) 37 37 ty 5 w.heap.size 0 n n a n c (madeCells #[.int .u8 0] n) 5 ((List.range n).map fun j => Value.int .u8 (z j)) Try.underlying37 size5 (heap_at _ _ _ rfl) (by simp) (fun j v hv => ?_) (by simp [size_madeCells]) (fun v hv => ?_)
  · have hd : List.drop n (madeCells #[.int .u8 0] n).toList = [] := List.drop_eq_nil_of_le (by rw [Array.length_toList, size_madeCells]; simp)
    rw [this]
    simp [hd, World.setRow_alloc_new, goInt]
  · rw [List.getElem?_map] at hv
    by_cases hj : j < n
    · simp [hj] at hv
      rw [← hv]
      exact bcell hb (hsrc j hj)
    · simp [hj] at hv
  · simp only [List.mem_map] at hv
    obtain ⟨j, _, rfl⟩ := hv
    rfl

theorem bytes_new (w : World) (n : Nat) (z : Nat → Int) : BytesAt (w.alloc (.cells (((List.range n).map fun j => Value.int .u8 (z j)).toArray) 5)) w.heap.size n := fun j hj =>
  ⟨z j, by rw [cell_of_row _ _ _ _ _ _ (heap_at _ _ _ rfl)]; simp [hj]⟩
theorem BytesAt.below {w W : World} {b n : Nat} (h : BytesAt w b n) (hb : Below w.heap.size w W) : BytesAt W b n := fun j hj => by
  obtain ⟨v, hv⟩ := h j hj
  exact ⟨v, bcell hb hv⟩
theorem hupd_same (h : Nat → Option Addr × Nat) (i : Nat) (v : Option Addr × Nat) : hupd h i v i = v := by simp [hupd]
theorem hupd_ne (h : Nat → Option Addr × Nat) {i j : Nat} (v : Option Addr × Nat) (e : j ≠ i) : hupd h i v j = h j := by simp [hupd, e]
/-- A nil element is passed over. -/
theorem CloneUp.skip {w W : World} {bL len k : Nat} {L : Nat → Nat} {h : Nat → Option Addr × Nat} (c : CloneUp w W bL len k L h) (hk : L k = 0) : CloneUp w W bL len (k + 1) L h :=
  ⟨c.row, fun i hi => by
    by_cases e : i < k
    · exact c.done i e
    · obtain rfl : i = k := by omega
      rw [c.rest i (Nat.le_refl _), hk]
      exact ⟨rfl, fun h => by omega⟩, fun i hi => c.rest i (by omega), c.old, c.bel⟩
/-- One element more. -/
theorem CloneUp.more {w W : World} {bL len k : Nat} {L : Nat → Nat} {h : Nat → Option Addr × Nat} (c : CloneUp w W bL len k L h) (z : Nat → Int) :
    CloneUp w ((W.setCell ⟨bL, k, none⟩ (.slice (some ⟨W.heap.size, 0, none⟩) (L k) (L k))).alloc (.cells (((List.range (L k)).map fun j => Value.int .u8 (z j)).toArray) 5)) bL len (k + 1) L (hupd h k (some ⟨W.heap.size, 0, none⟩, L k)) := by
  have hl := lt_of_some c.row
  have hs := c.bel.size
  have hz : (W.setCell ⟨bL, k, none⟩ (.slice (some ⟨W.heap.size, 0, none⟩) (L k) (L k))).heap.size = W.heap.size := by simp
  have hb : Below (W.setCell ⟨bL, k, none⟩ (.slice (some ⟨W.heap.size, 0, none⟩) (L k) (L k))).heap.size (W.setCell ⟨bL, k, none⟩ (.slice (some ⟨W.heap.size, 0, none⟩) (L k) (L k))) ((W.setCell ⟨bL, k, none⟩ (.slice (some ⟨W.heap.size, 0, none⟩) (L k) (L k))).alloc (.cells (((List.range (L k)).map fun j => Value.int .u8 (z j)).toArray) 5)) := (Below.refl _ _).alloc (Nat.le_refl _) _
  have hnew := bytes_new (W.setCell ⟨bL, k, none⟩ (.slice (some ⟨W.heap.size, 0, none⟩) (L k) (L k))) (L k) z
  rw [hz] at hnew
  have keepB : ∀ {b n : Nat}, BytesAt W b n → b ≠ bL → BytesAt (W.setCell ⟨bL, k, none⟩ (.slice (some ⟨W.heap.size, 0, none⟩) (L k) (L k))) b n := fun {b n} h hne j hj => by
    obtain ⟨v, hv⟩ := h j hj
    exact ⟨v, (World.cell?_setCell_other _ ⟨bL, k, none⟩ ⟨b, j, none⟩ _ (fun e => hne (congrArg Addr.block e).symm)).trans hv⟩
  refine ⟨?_, fun i hi => ?_, fun i hi => ?_, c.old, ?_⟩
  · refine row_keep hb ?_
    rw [heap_setCell_same _ _ _ _ _ _ c.row, ← hrow_set]
  · by_cases e : i = k
    · subst e
      rw [hupd_same]
      exact ⟨rfl, fun _ => ⟨W.heap.size, rfl, hl, hnew⟩⟩
    · rw [hupd_ne _ _ e]
      obtain ⟨h1, h2⟩ := c.done i (by omega)
      refine ⟨h1, fun h0 => ?_⟩
      obtain ⟨b, e1, e2, e3⟩ := h2 h0
      exact ⟨b, e1, e2, (keepB e3 (by omega)).below hb⟩
  · rw [hupd_ne _ _ (by omega)]
    exact c.rest i (by omega)
  · exact (c.bel.setCell (p := ⟨bL, k, none⟩) c.old _).trans (hb.mono (by rw [hz]; exact hs))
/-- What the clone is, as the rest of the law reads it. -/
structure Cloned (W : World) (la : Option Addr) (len : Nat) (L : Nat → Nat) (A : Nat → Option Addr) : Prop where
  at_ : ∀ i, i < len → ∃ bL, la = some ⟨bL, 0, none⟩ ∧ W.cell? ⟨bL, i, none⟩ = some (.slice (A i) (L i) (L i)) ∧ (0 < L i → ∃ b, A i = some ⟨b, 0, none⟩ ∧ BytesAt W b (L i))
theorem Cloned.below {w W : World} {la : Option Addr} {len : Nat} {L : Nat → Nat} {A : Nat → Option Addr} (h : Cloned w la len L A) (hb : Below w.heap.size w W) : Cloned W la len L A := ⟨fun i hi => by
  obtain ⟨bL, e, c, hh⟩ := h.at_ i hi
  refine ⟨bL, e, bcell hb c, fun h0 => ?_⟩
  obtain ⟨b, e1, e2⟩ := hh h0
  exact ⟨b, e1, e2.below hb⟩⟩
theorem CloneUp.cloned {w W : World} {bL len : Nat} {L : Nat → Nat} {h : Nat → Option Addr × Nat} (c : CloneUp w W bL len len L h) : Cloned W (some ⟨bL, 0, none⟩) len L (fun i => (h i).1) := ⟨fun i hi => by
  obtain ⟨h1, h2⟩ := c.done i hi
  refine ⟨bL, rfl, ?_, fun h0 => ?_⟩
  · rw [cell_of_row _ _ _ _ _ _ c.row, hrow_get _ hi, h1]
  · obtain ⟨b, e1, _, e3⟩ := h2 h0
    exact ⟨b, e1, e3⟩⟩
theorem eql28 (a : Option Addr) (l c : Nat) (w : World) : (binOp .eql 28 (.slice a l c) (.slice none 0 0)).run Try.prog w = .ok (.bool a.isNone) w := by
  have h := run_equal_slice_nil (P := Try.prog) w 28 37 a l c Try.underlying28
  simp [binOp, h, go_sem]
theorem neq37 (a : Option Addr) (l c : Nat) (w : World) : (binOp .neq 37 (.slice a l c) (.slice none 0 0)).run Try.prog w = .ok (.bool (!a.isNone)) w := run_neq_slice_nil (P := Try.prog) w 37 5 a l c Try.underlying37
def ClonePost (len : Nat) (L : Nat → Nat) (w : World) (e : Ending) (w' : World) : Prop :=
  ∃ la A, e = .returned (.slice la len len) ∧ Cloned w' la len L A ∧ Below w.heap.size w w'
set_option maxRecDepth 100000 in
set_option maxHeartbeats 1000000 in
theorem clone_any (a : Option Addr) (len cap : Nat) (A : Nat → Option Addr) (L C : Nat → Nat) (Z : Nat → Nat → Int) (hl : len ≤ 65536) (hL : ∀ i, i < len → L i ≤ 1048576) (ha : a = none → len = 0 ∧ cap = 0) (w : World) (h : Ins w a len A L C Z) :
    Calls Try.prog 11 #[.slice a len cap] w (ClonePost len L w) := by
  have H := hide h
  have HL := hide hL
  have q28 := eql28
  have q37 := neq37
  clear h hL
  cases a with
  | none =>
    obtain ⟨rfl, rfl⟩ := ha rfl
    go_enter Try.func11, Try.ntmps11
    go_wp2_with fail
    go_ret
    exact ⟨none, fun _ => none, rfl, ⟨fun i hi => by omega⟩, Below.refl _ _⟩
  | some a =>
    clear ha
    have hmk := make_hdrs len hl
    go_enter Try.func11, Try.ntmps11
    go_wp2_with fail
    clear hmk
    go_loopw [4] (fun j wr => ∃ k : Nat, k ≤ len ∧ j = .int .i64 k ∧ Hid (∃ h, CloneUp w wr w.heap.size len k L h)) (fun j _ => len - (intOf j).toNat)
    case atStart =>
      refine ⟨0, Nat.zero_le _, rfl, _, ⟨heap_at _ _ _ rfl, fun i hi => by omega, fun i _ => rfl, Nat.le_refl _, (Below.refl _ _).alloc (Nat.le_refl _) _⟩⟩
    case round =>
      obtain ⟨k, hk, rfl, HC⟩ := hrel
      obtain ⟨hh, c⟩ := unhide HC
      clear HC
      by_cases hlt : k < len
      · have I := (unhide H k hlt).below c.bel
        obtain ⟨⟨b, off, e, _, cz⟩, hsm, hnil, hbyte⟩ := I
        obtain rfl : a = ⟨b, off, none⟩ := by simpa using e
        have hk' : (k : Int) < (len : Int) := by omega
        have hLk := unhide HL k hlt
        have HC := hide c
        cases hA : A k with
        | none =>
          obtain ⟨l0, c0⟩ := hnil hA
          rw [hA, l0, c0] at cz
          have Hl0 := hide l0
          clear c l0 c0 hnil hbyte hA e
          go_wp2_with fail
          go_roundw
          case rel => exact ⟨k + 1, by omega, by go_num, _, (unhide HC).skip (unhide Hl0)⟩
          case measure => simp [intOf]; omega
        | some a' =>
          have hcp := fun ty => copy_bytes wr (L k) (C k) ty a' (Z k) (fun j hj => hbyte a' hA j hj)
          have hmk := make_bytes (L k) hLk
          rw [hA] at cz
          have hcell : wr.cell? ⟨w.heap.size, k, none⟩ = some (.slice (hh k).1 (hh k).2 (hh k).2) := by rw [cell_of_row _ _ _ _ _ _ c.row, hrow_get _ hlt]
          have hfree : wr.frozen? ⟨w.heap.size, k, none⟩ = false := frozen_of_row _ _ _ _ _ c.row
          have hbl := lt_of_some c.row
          clear c hnil hbyte hA e
          go_wp2_with fail
          go_roundw
          case rel => exact ⟨k + 1, by omega, by go_num, _, (unhide HC).more (Z k)⟩
          case measure => simp [intOf]; omega
      · obtain rfl : k = len := by omega
        have HC := hide c
        clear c
        go_wp2_with fail
        go_ret
        exact ⟨_, _, rfl, (unhide HC).cloned, (unhide HC).bel⟩

/-- The first empty element of the first len, or len. -/
def Fst (L : Nat → Nat) (len k : Nat) : Prop := k ≤ len ∧ (∀ i, i < k → 0 < L i) ∧ (k < len → L k = 0)
theorem Fst.one {L : Nat → Nat} {len k k' : Nat} (h : Fst L len k) (h' : Fst L len k') : k = k' := by
  obtain ⟨a1, a2, a3⟩ := h
  obtain ⟨b1, b2, b3⟩ := h'
  rcases Nat.lt_trichotomy k k' with e | e | e
  · have := b2 k e
    have := a3 (by omega)
    omega
  · exact e
  · have := a2 k' e
    have := b3 (by omega)
    omega
def FstPost (L : Nat → Nat) (len : Nat) (w : World) (e : Ending) (w' : World) : Prop := ∃ k, e = .returned (.int .i64 (k : Nat)) ∧ Fst L len k ∧ w' = w
set_option maxRecDepth 100000 in
set_option maxHeartbeats 1000000 in
theorem first_any (la : Option Addr) (len : Nat) (L : Nat → Nat) (A : Nat → Option Addr) (hl : len ≤ 65536) (w : World) (h : Cloned w la len L A) :
    Calls Try.prog 12 #[.slice la len len] w (FstPost L len w) := by
  have H := hide h
  clear h
  go_enter Try.func12, Try.ntmps12
  go_wp2_with fail
  go_loop [3] (fun j => ∃ k : Nat, k ≤ len ∧ j = .int .i64 k ∧ Hid (∀ i, i < k → 0 < L i)) (fun j => len - (intOf j).toNat)
  case atStart => exact ⟨0, Nat.zero_le _, rfl, fun i hi => by omega⟩
  case round =>
    obtain ⟨k, hk, rfl, HR⟩ := hrel
    by_cases hlt : k < len
    · obtain ⟨bL, rfl, cz, _⟩ := (unhide H).at_ k hlt
      have hk' : (k : Int) < (len : Int) := by omega
      by_cases q : L k = 0
      · rw [q] at cz
        have Hq := hide q
        clear q
        go_wp2_with fail
        go_ret
        exact ⟨k, rfl, ⟨hk, unhide HR, fun _ => unhide Hq⟩, rfl⟩
      · have q' : ((L k : Int) == 0) = false := by simp; omega
        go_wp2_with fail
        go_round
        case rel => exact ⟨k + 1, by omega, by go_num, ext_lt (unhide HR) (by omega)⟩
        case measure => simp [intOf]; omega
    · obtain rfl : k = len := by omega
      go_wp2_with fail
      go_ret
      exact ⟨k, rfl, ⟨hk, unhide HR, fun h => by omega⟩, rfl⟩
end Go.Proofs.Qxb6616348a
