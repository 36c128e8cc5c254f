/-
  A PICKER AND ITS PEERS, OWNED BY COLOURS: every block has a colour; what a call may turn is told by colours.
-/
import Derived.Test.Qxb6616210aMk
namespace Go.Proofs.Qxb6616210a
open Go.RowKit Go.Lib
/-! ### Rows of pointers -/
def ptrs (n : Nat) (f : Nat → Option Addr) : Array Value := Array.ofFn (n := n) fun i => Value.pointer (f i.1)
def gupd (f : Nat → Option Addr) (i : Nat) (v : Option Addr) : Nat → Option Addr := fun j => if j = i then v else f j
theorem gupd_same (f : Nat → Option Addr) (i : Nat) (v : Option Addr) : gupd f i v i = v := by simp [gupd]
theorem gupd_ne (f : Nat → Option Addr) {i j : Nat} (v : Option Addr) (h : j ≠ i) : gupd f i v j = f j := by simp [gupd, h]
theorem ptrs_size (n : Nat) (f : Nat → Option Addr) : (ptrs n f).size = n := by simp [ptrs]
theorem ptrs_get {n i : Nat} (f : Nat → Option Addr) (h : i < n) : (ptrs n f)[i]? = some (.pointer (f i)) := by simp [ptrs, h]
theorem ptrs_none {n i : Nat} (f : Nat → Option Addr) (h : n ≤ i) : (ptrs n f)[i]? = none := Array.getElem?_eq_none (by rw [ptrs_size]; exact h)
theorem ptrs_set {n i : Nat} (f : Nat → Option Addr) (v : Option Addr) : (ptrs n f).setIfInBounds i (.pointer v) = ptrs n (gupd f i v) := by
  apply Array.ext_getElem?
  intro j
  by_cases hj : j < n
  · rw [ptrs_get _ hj, Array.getElem?_setIfInBounds]
    by_cases e : i = j
    · subst e; simp [ptrs_size, hj, gupd]
    · have e' : ¬ j = i := fun h => e h.symm
      rw [if_neg e, ptrs_get _ hj]; simp [gupd, e']
  · rw [ptrs_none _ (by omega), Array.getElem?_eq_none (by simp [ptrs_size]; omega)]
def PRow (w : World) (b n : Nat) (f : Nat → Option Addr) : Prop := w.heap[b]? = some (.cells (ptrs n f) 36)
theorem PRow.keep {w w' : World} {b n : Nat} {f : Nat → Option Addr} (h : PRow w b n f) {F : Nat → Prop} (hk : Kept F w w') (hF : ¬ F b) : PRow w' b n f := hk.at h hF
theorem PRow.cell {w : World} {b n : Nat} {f : Nat → Option Addr} (h : PRow w b n f) {i : Nat} (hi : i < n) : w.cell? ⟨b, i, none⟩ = some (.pointer (f i)) := by
  rw [cell_of_row _ _ _ _ _ _ h, ptrs_get _ hi]
theorem PRow.free {w : World} {b n : Nat} {f : Nat → Option Addr} (h : PRow w b n f) (i : Nat) : w.frozen? ⟨b, i, none⟩ = false := frozen_of_row _ _ _ _ _ h
theorem PRow.set {w : World} {b n : Nat} {f : Nat → Option Addr} (h : PRow w b n f) (i : Nat) (v : Option Addr) : PRow (w.setCell ⟨b, i, none⟩ (.pointer v)) b n (gupd f i v) := by
  unfold PRow
  rw [heap_setCell_same _ _ _ _ _ _ h, ptrs_set]
theorem PRow.lt {w : World} {b n : Nat} {f : Nat → Option Addr} (h : PRow w b n f) : b < w.heap.size := lt_of_some h
theorem Try.info36 : (Try.prog.info? 36).map (fun i => (i.zero, i.size, i.bytes)) = some (some (.pointer none), 1, 8) := by kernel_rfl
theorem made_ptrs (n : Nat) : madeCells #[.pointer none] n = ptrs n (fun _ => none) := by
  apply Array.ext_getElem?
  intro j
  by_cases hj : j < n
  · rw [ptrs_get _ hj]; simp [madeCells, hj, Nat.mod_one]
  · rw [ptrs_none _ (by omega), Array.getElem?_eq_none (by rw [size_madeCells]; omega)]
theorem make_ptrs (n : Nat) (hn : n ≤ 35184372088832) (w : World) : (Instr.makeSlice 35 (.int .i64 (n : Int)) (.int .i64 (n : Int))).run Try.prog w = .ok (.slice (some ⟨w.heap.size, 0, none⟩) n n) (w.alloc (.cells (ptrs n fun _ => none) 36)) := by
  rw [run_make_row' (P := Try.prog) 35 36 (.pointer none) 8 Try.underlying35 Try.info36 rfl .i64 .i64 n (by omega) (by omega) w, made_ptrs]

/-! ### Colours -/
/-- The blocks from s on get the colour c. -/
def recol (col : Nat → Nat) (s c : Nat) : Nat → Nat := fun k => if k < s then col k else c
theorem recol_lt {col : Nat → Nat} {s c k : Nat} (h : k < s) : recol col s c k = col k := by simp [recol, h]
theorem recol_ge {col : Nat → Nat} {s c k : Nat} (h : s ≤ k) : recol col s c k = c := by simp [recol, Nat.not_lt.2 h]

theorem PkAt.lt {w : World} {K : Blk} {n : Nat} {R : RS} (h : PkAt w K n R) : K.pk < w.heap.size ∧ K.hb < w.heap.size ∧ K.br < w.heap.size ∧ K.bR < w.heap.size ∧ K.bp < w.heap.size ∧ K.bo < w.heap.size ∧ K.bq < w.heap.size ∧ K.bg < w.heap.size ∧ K.bs < w.heap.size :=
  ⟨block_lt_of_cell h.h0, h.bits.lt, lt_of_some h.rar.obj, lt_of_some h.rar.rnd, lt_of_some h.rar.pcg, h.rar.order.lt, h.rar.pos.lt, h.rar.group.lt, h.rar.start.lt⟩
/-- The colours of a picker's blocks. -/
def KCol (col : Nat → Nat) (c0 : Nat) (K : Blk) : Prop := col K.pk = c0 ∧ col K.hb = c0 ∧ col K.br = c0 ∧ col K.bR = c0 ∧ col K.bp = c0 ∧ col K.bo = c0 ∧ col K.bq = c0 ∧ col K.bg = c0 ∧ col K.bs = c0
def PCol (col : Nat → Nat) (c b bb bfu mb : Nat) : Prop := col b = c ∧ col bb = c ∧ col bfu = c ∧ col mb = c
/-- The peers' blocks. -/
structure Fam where
  (b bb bfu mb : Nat → Nat)
def Fam.put (f : Fam) (x b bb bfu mb : Nat) : Fam := ⟨upd f.b x b, upd f.bb x bb, upd f.bfu x bfu, upd f.mb x mb⟩
/-- A picker and the first x of its m peers. -/
structure Side (W : World) (col : Nat → Nat) (c0 m n x : Nat) (K : Blk) (bP : Nat) (g : Nat → Option Addr) (f : Fam) (R : RS) (H : Nat → Nat → Bool) (dist : Nat → Nat) : Prop where
  pk : PkAt W K n R
  kc : KCol col c0 K
  prow : PRow W bP m g
  pc : col bP = c0 + 1
  ptr : ∀ y, y < x → g y = some ⟨f.b y, 0, none⟩
  peer : ∀ y, y < x → PeerAt W (f.b y) (f.bb y) (f.bfu y) (f.mb y) n (H y) (dist y) (dist y)
  qc : ∀ y, y < x → PCol col (c0 + 2 + y) (f.b y) (f.bb y) (f.bfu y) (f.mb y)
  small : x ≤ m ∧ m ≤ 16
variable {W W' : World} {col : Nat → Nat} {c0 m n x : Nat} {K : Blk} {bP : Nat} {g : Nat → Option Addr} {f : Fam} {R : RS} {H : Nat → Nat → Bool} {dist : Nat → Nat}
theorem KCol.not {F : Nat → Prop} (h : KCol col c0 K) (hF : ∀ k, F k → col k ≠ c0) : ¬ F K.pk ∧ ¬ F K.hb ∧ ¬ F K.br ∧ ¬ F K.bR ∧ ¬ F K.bp ∧ ¬ F K.bo ∧ ¬ F K.bq ∧ ¬ F K.bg ∧ ¬ F K.bs := by
  obtain ⟨k1, k2, k3, k4, k5, k6, k7, k8, k9⟩ := h
  exact ⟨fun e => hF _ e k1, fun e => hF _ e k2, fun e => hF _ e k3, fun e => hF _ e k4, fun e => hF _ e k5, fun e => hF _ e k6, fun e => hF _ e k7, fun e => hF _ e k8, fun e => hF _ e k9⟩
theorem PkAt.keepC {F : Nat → Prop} (h : PkAt W K n R) (hc : KCol col c0 K) (hk : Kept F W W') (hF : ∀ k, F k → col k ≠ c0) : PkAt W' K n R := by
  obtain ⟨a1, a2, a3, a4, a5, a6, a7, a8, a9⟩ := hc.not hF
  exact h.keep hk a1 a2 ⟨a3, a4, a5, a6, a7, a8, a9⟩
theorem PeerAt.keepC {F : Nat → Prop} {b bb bfu mb c : Nat} {h1 : Nat → Bool} {d e : Nat} (h : PeerAt W b bb bfu mb n h1 d e) (hc : PCol col c b bb bfu mb) (hk : Kept F W W') (hF : ∀ k, F k → col k ≠ c) : PeerAt W' b bb bfu mb n h1 d e := by
  obtain ⟨k1, k2, k3, k4⟩ := hc
  exact h.keep hk (fun e => hF _ e k1) (fun e => hF _ e k2) (fun e => hF _ e k3) (fun e => hF _ e k4)
theorem Side.keep (h : Side W col c0 m n x K bP g f R H dist) {F : Nat → Prop} (hk : Kept F W W') (hF : ∀ k, F k → col k < c0 ∨ c0 + 100 ≤ col k) : Side W' col c0 m n x K bP g f R H dist := by
  have hs := h.small
  refine ⟨h.pk.keepC h.kc hk (fun k e => ?_), h.kc, h.prow.keep hk (fun e => ?_), h.pc, h.ptr, fun y hy => (h.peer y hy).keepC (h.qc y hy) hk (fun k e => ?_), h.qc, h.small⟩
  · have := hF _ e; omega
  · have := hF _ e; have := h.pc; omega
  · have := hF _ e; omega
theorem Side.recol (h : Side W col c0 m n x K bP g f R H dist) {col' : Nat → Nat} (hc : ∀ k, k < W.heap.size → col' k = col k) : Side W col' c0 m n x K bP g f R H dist := by
  obtain ⟨l1, l2, l3, l4, l5, l6, l7, l8, l9⟩ := h.pk.lt
  obtain ⟨k1, k2, k3, k4, k5, k6, k7, k8, k9⟩ := h.kc
  refine ⟨h.pk, ⟨?_, ?_, ?_, ?_, ?_, ?_, ?_, ?_, ?_⟩, h.prow, ?_, h.ptr, h.peer, fun y hy => ?_, h.small⟩
  · rw [hc _ l1, k1]
  · rw [hc _ l2, k2]
  · rw [hc _ l3, k3]
  · rw [hc _ l4, k4]
  · rw [hc _ l5, k5]
  · rw [hc _ l6, k6]
  · rw [hc _ l7, k7]
  · rw [hc _ l8, k8]
  · rw [hc _ l9, k9]
  · rw [hc _ h.prow.lt, h.pc]
  · obtain ⟨a1, a2, a3, a4⟩ := (h.peer y hy).lt
    obtain ⟨b1, b2, b3, b4⟩ := h.qc y hy
    exact ⟨by rw [hc _ a1, b1], by rw [hc _ a2, b2], by rw [hc _ a3, b3], by rw [hc _ a4, b4]⟩
theorem Side.far (h : Side W col c0 m n x K bP g f R H dist) {y : Nat} (hy : y < x) : Far K (f.b y) (f.bb y) (f.bfu y) (f.mb y) := by
  obtain ⟨k1, k2, k3, k4, k5, k6, k7, k8, k9⟩ := h.kc
  obtain ⟨b1, b2, b3, b4⟩ := h.qc y hy
  have hw : ∀ k, K.wr k → col k = c0 := by
    rintro k (e | e | e | e | e | e) <;> (rw [e]; assumption)
  have hne : ∀ k, col k = c0 + 2 + y → ¬ K.wr k := fun k e e2 => by have := hw k e2; omega
  refine ⟨hne _ b1, hne _ b2, hne _ b3, hne _ b4, fun k hk => ?_⟩
  have ck : col k = c0 + 2 + y := by
    rcases hk with e | e | e <;> (rw [e]; assumption)
  exact ⟨hne _ ck, fun e => by rw [e] at ck; omega, fun e => by rw [e] at ck; omega, fun e => by rw [e] at ck; omega⟩
/-- Piece p is announced by peer x. -/
def hset (H : Nat → Nat → Bool) (x p : Nat) : Nat → Nat → Bool := fun y => if y = x then bupd (H x) p true else H y
theorem inC {c c0 y m : Nat} (h : c = c0 ∨ c = c0 + 2 + y) (hy : y < m) (hm : m ≤ 16) : c0 ≤ c ∧ c < c0 + 100 := by omega
theorem Side.added (h : Side W col c0 m n m K bP g f R H dist) {y p : Nat} (hy : y < m) (hA : AddedPost K (f.b y) (f.bb y) (f.bfu y) (f.mb y) n R (bupd (H y) p true) (dist y + 1) (dist y) p W W') :
    ∃ v S' K', K'.pk = K.pk ∧ Pcg.Rolls R.S (room R p R.S) v S' ∧ Side W' (Go.Proofs.Qxb6616210a.recol col W.heap.size c0) c0 m n m K' bP g f (addR R p v S') (hset H y p) (upd dist y (dist y + 1)) ∧ Kept (fun k => c0 ≤ col k ∧ col k < c0 + 100) W W' := by
  obtain ⟨v, S', bs', cap', hR, hbs, hPk, hPe, hk⟩ := hA
  have hs := h.small
  obtain ⟨l1, l2, l3, l4, l5, l6, l7, l8, l9⟩ := h.pk.lt
  obtain ⟨k1, k2, k3, k4, k5, k6, k7, k8, k9⟩ := h.kc
  obtain ⟨b1, b2, b3, b4⟩ := h.qc y hy
  have hFc : ∀ k, (K.wr k ∨ k = f.b y ∨ k = f.bb y ∨ k = f.bfu y) → col k = c0 ∨ col k = c0 + 2 + y := by
    rintro k ((e | e | e | e | e | e) | e | e | e)
    · rw [e]; exact .inl k3
    · rw [e]; exact .inl k5
    · rw [e]; exact .inl k6
    · rw [e]; exact .inl k7
    · rw [e]; exact .inl k8
    · rw [e]; exact .inl k9
    · rw [e]; exact .inr b1
    · rw [e]; exact .inr b2
    · rw [e]; exact .inr b3
  refine ⟨v, S', { K with bs := bs', cap := cap' }, rfl, hR, ⟨hPk, ⟨?_, ?_, ?_, ?_, ?_, ?_, ?_, ?_, ?_⟩, ?_, ?_, h.ptr, fun z hz => ?_, fun z hz => ?_, h.small⟩, hk.mono (fun k _ e => ?_)⟩
  · exact (recol_lt l1).trans k1
  · exact (recol_lt l2).trans k2
  · exact (recol_lt l3).trans k3
  · exact (recol_lt l4).trans k4
  · exact (recol_lt l5).trans k5
  · exact (recol_lt l6).trans k6
  · exact (recol_lt l7).trans k7
  · exact (recol_lt l8).trans k8
  · rcases hbs with e | e
    · show Go.Proofs.Qxb6616210a.recol col W.heap.size c0 bs' = c0
      rw [e, recol_lt l9, k9]
    · exact recol_ge e
  · refine h.prow.keep hk (fun e => ?_)
    have := hFc _ e
    have := h.pc
    omega
  · rw [recol_lt h.prow.lt, h.pc]
  · by_cases e : z = y
    · subst e
      have e1 : hset H z p z = bupd (H z) p true := by simp [hset]
      rw [e1, upd_same]
      exact hPe
    · have e1 : hset H y p z = H z := by simp [hset, e]
      rw [e1, upd_ne _ _ e]
      refine (h.peer z hz).keepC (h.qc z hz) hk (fun k hk2 => ?_)
      have := hFc _ hk2
      omega
  · obtain ⟨a1, a2, a3, a4⟩ := (h.peer z hz).lt
    obtain ⟨c1, c2, c3, c4⟩ := h.qc z hz
    exact ⟨by rw [recol_lt a1, c1], by rw [recol_lt a2, c2], by rw [recol_lt a3, c3], by rw [recol_lt a4, c4]⟩
  · exact inC (hFc _ e) hy hs.2
/-- One peer more. -/
theorem Side.more (h : Side W col c0 m n x K bP g f R (fun _ _ => false) (fun _ => 0)) (hx : x < m) {s b bb bfu mb : Nat} (hs : s = W.heap.size) (hk : Kept (fun _ => False) W W') (hP : PeerAt W' b bb bfu mb n (fun _ => false) 0 0) (l1 : s ≤ b) (l2 : s ≤ bb) (l3 : s ≤ bfu) (l4 : s ≤ mb) :
    Side (W'.setCell ⟨bP, x, none⟩ (.pointer (some ⟨b, 0, none⟩))) (Go.Proofs.Qxb6616210a.recol col s (c0 + 2 + x)) c0 m n (x + 1) K bP (gupd g x (some ⟨b, 0, none⟩)) (f.put x b bb bfu mb) R (fun _ _ => false) (fun _ => 0) := by
  subst hs
  have hS := h.recol (col' := Go.Proofs.Qxb6616210a.recol col W.heap.size (c0 + 2 + x)) (fun k hk => recol_lt hk)
  have hS' := hS.keep hk (fun k e => e.elim)
  have hlt := h.prow.lt
  have hsm := h.small
  have kc := Kept.cell1 (w := W') ⟨bP, x, none⟩ (.pointer (some ⟨b, 0, none⟩))
  have cP := hS'.pc
  refine ⟨hS'.pk.keepC hS'.kc kc (fun k e => ?_), hS'.kc, hS'.prow.set _ _, cP, fun y hy => ?_, fun y hy => ?_, fun y hy => ?_, by omega⟩
  · have e : k = bP := e
    rw [e, cP]; omega
  · by_cases e : y = x
    · subst e
      rw [gupd_same]; simp [Fam.put, upd_same]
    · rw [gupd_ne _ _ e, h.ptr y (by omega)]; simp [Fam.put, upd_ne _ _ e]
  · by_cases e : y = x
    · subst e
      simp only [Fam.put, upd_same]
      refine hP.keep kc (fun e => ?_) (fun e => ?_) (fun e => ?_) (fun e => ?_) <;> (simp only at e; omega)
    · simp only [Fam.put, upd_ne _ _ e]
      refine (hS'.peer y (by omega)).keepC (hS'.qc y (by omega)) kc (fun k e2 => ?_)
      have e2 : k = bP := e2
      rw [e2, cP]; omega
  · by_cases e : y = x
    · subst e
      simp only [Fam.put, upd_same]
      exact ⟨recol_ge l1, recol_ge l2, recol_ge l3, recol_ge l4⟩
    · simp only [Fam.put, upd_ne _ _ e]
      exact hS'.qc y (by omega)
/-- A new picker, its row of peers, no peer yet. -/
theorem Side.start (hK : PkAt W K n R) (hm : m ≤ 16) {c : Nat} (hc : KCol col c K) (hP : PRow W bP m g) (hb : col bP = c + 1) : Side W col c m n 0 K bP g f R (fun _ _ => false) (fun _ => 0) :=
  ⟨hK, hc, hP, hb, fun y hy => by omega, fun y hy => by omega, fun y hy => by omega, by omega⟩
end Go.Proofs.Qxb6616210a
