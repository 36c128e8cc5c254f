/-
  THE WALKS OF leaf (function 26) and ZZnewClock (function 8).
-/
import Derived.Test.Qxb6616202aPlain
import Derived.Deep.Cut
namespace Go.Proofs.Qxb6616202a
open Go.RowKit

theorem wp_forget {P : Program} {c : Code} {Q : Exit → Act → World → Prop} {a : Act} {w : World} (S : World → Prop) (h : S w) (k : ∀ w', S w' → Code.wp P c Q a w') : Code.wp P c Q a w := k w h

theorem heap_at (w : World) (o : Obj) (i : Nat) (h : i = w.heap.size) : (w.alloc o).heap[i]? = some o := by
  subst h; exact heap_alloc_new w o

theorem zero74 : ∃ Z : Array Value, Z.size = 35840 ∧ ∀ w, (zeroValue 74).run Try.prog w = .ok (.agg Z) w := by
  have h1 : (Try.prog.info? 74).map (fun i => (i.zero.map (fun v => match v with | .agg z => some z.size | _ => none), i.size)) = some (some (some 35840), 35840) := by kernel_rfl
  cases hq : Try.prog.info? 74 with
  | none => rw [hq] at h1; cases h1
  | some i =>
    rw [hq] at h1
    simp only [Option.map_some, Option.some.injEq, Prod.mk.injEq] at h1
    obtain ⟨h1, _⟩ := h1
    cases hz : i.zero with
    | none => rw [hz] at h1; cases h1
    | some v =>
      rw [hz] at h1
      cases v with
      | agg z =>
        simp at h1
        exact ⟨z, h1, fun w => by simp [zeroValue, typeInfo, hq, hz]⟩
      | _ => simp at h1

theorem leaf_any (bs bk bl : Nat) (w : World) (hs : w.cell? ⟨bs, 0, none⟩ = some (.slice (some ⟨bk, 0, none⟩) 1 1)) (hk : w.cell? ⟨bk, 0, none⟩ = some (.pointer (some ⟨bl, 0, none⟩))) :
    Calls Try.prog 26 #[.pointer (some ⟨bs, 0, none⟩), .int .i32 1] w fun e w' => e = .returned (.pointer (some ⟨bl, 35, none⟩)) ∧ w' = w := by
  have hand : bits BinOp.and IntKind.i32 1 1023 = 1 := by decide
  go_enter Try.func26, Try.ntmps26
  go_wp2
  go_ret
  exact ⟨rfl, rfl⟩

/-- A clock whose tree is one leaf lies in memory. -/
structure ClockAt (W : World) (T : Nat → Int) (own ownLine : Int) (aT aL : Nat → Int) (k : Nat) (bc bs bk bl : Nat) : Prop where
  store : W.cell? ⟨bc, 0, none⟩ = some (.pointer (some ⟨bs, 0, none⟩))
  line : W.cell? ⟨bc, 2, none⟩ = some (.int .i64 ownLine)
  lines : ∀ j, j < 5 → W.cell? ⟨bc, 3 + j, none⟩ = some (.int .i64 (aL j))
  threads : ∀ j, j < 5 → W.cell? ⟨bc, 8 + j, none⟩ = some (.int .i32 (aT j))
  own : W.cell? ⟨bc, 13, none⟩ = some (.int .i32 own)
  root : W.cell? ⟨bc, 14, none⟩ = some (.int .i32 1)
  asides : W.cell? ⟨bc, 15, none⟩ = some (.int .u8 k)
  shift : W.cell? ⟨bc, 16, none⟩ = some (.int .u8 0)
  chunks : W.cell? ⟨bs, 0, none⟩ = some (.slice (some ⟨bk, 0, none⟩) 1 1)
  row : W.cell? ⟨bk, 0, none⟩ = some (.pointer (some ⟨bl, 0, none⟩))
  leaf : ∀ u, u < 32 → W.cell? ⟨bl, 35 + u, none⟩ = some (.int .i64 (T u))

theorem ClockAt.below {W W' : World} {T : Nat → Int} {own ownLine : Int} {aT aL : Nat → Int} {k bc bs bk bl : Nat} (h : ClockAt W T own ownLine aT aL k bc bs bk bl) (hb : Below W.heap.size W W') : ClockAt W' T own ownLine aT aL k bc bs bk bl := by
  have keep : ∀ {a : Addr} {v : Value}, W.cell? a = some v → W'.cell? a = some v := fun {a v} e => by rw [hb.cell (block_lt_of_cell e)]; exact e
  exact ⟨keep h.store, keep h.line, fun j hj => keep (h.lines j hj), fun j hj => keep (h.threads j hj), keep h.own, keep h.root, keep h.asides, keep h.shift, keep h.chunks, keep h.row, fun u hu => keep (h.leaf u hu)⟩

def NewPost (T : Nat → Int) (own ownLine : Int) (aT aL : Nat → Int) (k : Nat) (w : World) (e : Ending) (w' : World) : Prop :=
  ∃ bc bs bk bl, e = .returned (.pointer (some ⟨bc, 0, none⟩)) ∧ ClockAt w' T own ownLine aT aL k bc bs bk bl ∧ Below w.heap.size w w'

/-- What 'ZZnewClock' has laid before it writes the leaf. -/
structure Laid (w : World) (CT CA CL : Array Value) (W : World) : Prop where
  below : Below w.heap.size w W
  size : W.heap.size = w.heap.size + 1 + 1 + 1 + 1 + 1 + 1
  tree : W.heap[w.heap.size]? = some (.cells CT 22)
  aT : W.heap[w.heap.size + 1]? = some (.cells CA 23)
  aL : W.heap[w.heap.size + 1 + 1]? = some (.cells CL 24)
  store : W.cell? ⟨w.heap.size + 1 + 1 + 1, 0, none⟩ = some (.slice (some ⟨w.heap.size + 1 + 1 + 1 + 1 + 1, 0, none⟩) 1 1)
  row : W.cell? ⟨w.heap.size + 1 + 1 + 1 + 1 + 1, 0, none⟩ = some (.pointer (some ⟨w.heap.size + 1 + 1 + 1 + 1, 0, none⟩))
  leaf : ∃ Z : Array Value, Z.size = 35840 ∧ W.heap[w.heap.size + 1 + 1 + 1 + 1]? = some (.cells Z 74)

/-- .. and behind the store of the tree into the leaf. -/
structure Laid2 (w : World) (CT CA CL : Array Value) (W : World) : Prop where
  below : Below w.heap.size w W
  size : W.heap.size = w.heap.size + 1 + 1 + 1 + 1 + 1 + 1
  aT : ∀ j, W.cell? ⟨w.heap.size + 1, j, none⟩ = CA[j]?
  aL : ∀ j, W.cell? ⟨w.heap.size + 1 + 1, j, none⟩ = CL[j]?
  store : W.cell? ⟨w.heap.size + 1 + 1 + 1, 0, none⟩ = some (.slice (some ⟨w.heap.size + 1 + 1 + 1 + 1 + 1, 0, none⟩) 1 1)
  row : W.cell? ⟨w.heap.size + 1 + 1 + 1 + 1 + 1, 0, none⟩ = some (.pointer (some ⟨w.heap.size + 1 + 1 + 1 + 1, 0, none⟩))
  leaf : ∀ j, j < 32 → W.cell? ⟨w.heap.size + 1 + 1 + 1 + 1, 35 + j, none⟩ = CT[j]?
  refs : ∃ v, W.cell? ⟨w.heap.size + 1 + 1 + 1 + 1, 67, none⟩ = some v
  free : W.frozen? ⟨w.heap.size + 1 + 1 + 1 + 1, 67, none⟩ = false

theorem Laid.there {w : World} {CT CA CL : Array Value} {W : World} (h : Laid w CT CA CL W) (hCT : CT.size = 32) : W.there (w.heap.size + 1 + 1 + 1 + 1) 35 CT.size := by
  obtain ⟨Z, hZ, hh⟩ := h.leaf
  intro j hj
  exact ⟨by rw [cell_of_row _ _ _ _ _ _ hh]; simp; omega, frozen_of_row _ _ _ _ _ hh⟩

theorem below_setCells {B : Nat} {a : World} (g : Nat) (hg : B ≤ g) : ∀ (vs : List Value) (o : Nat) {w : World}, Below B a w → Below B a (w.setCells g o vs)
  | [], _, _, h => h
  | v :: r, o, _, h => by
    rw [World.setCells]
    exact below_setCells g hg r (o + 1) (h.setCell hg v)
theorem size_setCells (g : Nat) : ∀ (vs : List Value) (o : Nat) (w : World), (w.setCells g o vs).heap.size = w.heap.size
  | [], _, _ => rfl
  | v :: r, o, w => by
    rw [World.setCells, size_setCells g r (o + 1)]
    simp [World.setCell]

theorem Laid.then {w : World} {CT CA CL : Array Value} {W : World} (h : Laid w CT CA CL W) (hCT : CT.size = 32) : Laid2 w CT CA CL (W.setCells (w.heap.size + 1 + 1 + 1 + 1) 35 CT.toList) := by
  have ht := h.there hCT
  obtain ⟨Z, hZ, hh⟩ := h.leaf
  have other : ∀ b o, b ≠ w.heap.size + 1 + 1 + 1 + 1 → (W.setCells (w.heap.size + 1 + 1 + 1 + 1) 35 CT.toList).cell? ⟨b, o, none⟩ = W.cell? ⟨b, o, none⟩ := fun b o hb =>
    World.cell?_setCells_out _ _ _ _ _ (fun e _ => absurd e hb)
  refine ⟨below_setCells _ (by omega) _ _ h.below, by rw [size_setCells, h.size], fun j => ?_, fun j => ?_, ?_, ?_, fun j hj => ?_, ?_, ?_⟩
  · rw [other _ _ (by omega), cell_of_row _ _ _ _ _ _ h.aT]
  · rw [other _ _ (by omega), cell_of_row _ _ _ _ _ _ h.aL]
  · rw [other _ _ (by omega), h.store]
  · rw [other _ _ (by omega), h.row]
  · have hj' : j < CT.toList.length := by simp; omega
    rw [World.cell?_setCells_in _ _ _ _ (fun i hi => (ht i (by simpa using hi)).1) j hj']
    simp
  · rw [World.cell?_setCells_out _ _ _ _ _ (fun _ _ => by right; simp [hCT]), cell_of_row _ _ _ _ _ _ hh]
    exact ⟨Z[67], by simp⟩
  · rw [World.frozen?_setCells, frozen_of_row _ _ _ _ _ hh]

set_option maxRecDepth 100000 in
set_option maxHeartbeats 1000000 in
theorem new_any (T : Nat → Int) (CT : Array Value) (hCT : CT.size = 32) (hT : ∀ i, i < 32 → CT[i]? = some (.int .i64 (T i))) (aT aL : Nat → Int)
    (own ownLine : Int) (k : Nat) (size : Int) (w : World) :
    Calls Try.prog 8 #[.agg CT, .int .i32 own, .int .i64 ownLine, .agg #[.int .i32 (aT 0), .int .i32 (aT 1), .int .i32 (aT 2), .int .i32 (aT 3), .int .i32 (aT 4)], .agg #[.int .i64 (aL 0), .int .i64 (aL 1), .int .i64 (aL 2), .int .i64 (aL 3), .int .i64 (aL 4)], .int .u8 k, .int .i64 size] w fun e w' => NewPost T own ownLine aT aL k w e w' := by
  obtain ⟨Z, hZ, hz⟩ := zero74
  have HT : Hid (∀ i, i < 32 → CT[i]? = some (.int .i64 (T i))) := hT
  clear hT
  go_enter Try.func8, Try.ntmps8
  go_upto_region 5 with fail
  refine (leaf_any _ (w.heap.size + 1 + 1 + 1 + 1 + 1) (w.heap.size + 1 + 1 + 1 + 1) _ (by go_simp) (by go_simp)).mono ?_
  rintro e w' ⟨rfl, rfl⟩
  go_upto_region 5 with fail
  refine wp_forget (Laid w CT #[.int .i32 (aT 0), .int .i32 (aT 1), .int .i32 (aT 2), .int .i32 (aT 3), .int .i32 (aT 4)] #[.int .i64 (aL 0), .int .i64 (aL 1), .int .i64 (aL 2), .int .i64 (aL 3), .int .i64 (aL 4)]) ?_ ?_
  · refine ⟨?_, ?_, ?_, ?_, ?_, ?_, ?_, Z, hZ, ?_⟩
    · exact (((((((Below.refl _ _).alloc (Nat.le_refl _) _).alloc (by simp) _).alloc (by simp <;> omega) _).alloc (by simp <;> omega) _).alloc (by simp <;> omega) _).alloc (by simp <;> omega) _)
    · simp
    · rw [Below.heap_alloc _ _ _ (by simp <;> omega), Below.heap_alloc _ _ _ (by simp <;> omega), Below.heap_alloc _ _ _ (by simp <;> omega), Below.heap_alloc _ _ _ (by simp <;> omega), Below.heap_alloc _ _ _ (by simp), heap_at _ _ _ rfl]
    · rw [Below.heap_alloc _ _ _ (by simp <;> omega), Below.heap_alloc _ _ _ (by simp <;> omega), Below.heap_alloc _ _ _ (by simp <;> omega), Below.heap_alloc _ _ _ (by simp), heap_at _ _ _ (by simp)]
    · rw [Below.heap_alloc _ _ _ (by simp <;> omega), Below.heap_alloc _ _ _ (by simp <;> omega), Below.heap_alloc _ _ _ (by simp), heap_at _ _ _ (by simp)]
    · go_simp
    · go_simp
    · rw [Below.heap_alloc _ _ _ (by simp), heap_at _ _ _ (by simp)]
  clear hz hZ Z
  intro W hW
  have hlen : CT.toList.length = 32 := by simpa using hCT
  have i22 : (Try.prog.info? 22).map (·.size) = some CT.size := by rw [hCT]; kernel_rfl
  have H1 := hide hW
  have Hi := hide i22
  have Hr : Hid (W.rangeAt w.heap.size 0 CT.toList) := by
    have := World.rangeAt_of_block hW.tree 0 CT.size
    exact hide (by simpa using this)
  clear hlen i22 hW
  have H1c : Hid (CT.all (·.oneCell') = true) := by
    refine Array.all_eq_true.2 fun i hi => ?_
    have := unhide HT i (by omega)
    rw [Array.getElem?_eq_getElem hi] at this
    have e := Option.some.inj this
    rw [e]; rfl
  go_upto_region 6 with (first | (refine wpList_load_mid rfl 22 _ rfl w.heap.size 0 rfl CT.toList _ (unhide Hr) Try.underlying22 rfl (by simpa using unhide Hi) ?_) | (refine wpList_store_mid rfl 22 _ _ rfl (w.heap.size + 1 + 1 + 1 + 1) 35 CT rfl rfl ((unhide H1).there hCT) (unhide Hi) (unhide H1c) ?_))
  refine wp_forget _ ((unhide H1).then hCT) ?_
  clear H1 Hi Hr H1c
  intro W2 h2
  have HT2 : Hid (∀ j, j < 32 → W2.cell? ⟨w.heap.size + 1 + 1 + 1 + 1, 35 + j, none⟩ = some (.int .i64 (T j))) := fun j hj => by rw [h2.leaf j hj]; exact unhide HT j hj
  have HB := hide h2.below
  have hz := h2.size
  have hA := h2.aT
  have hL := h2.aL
  have HS := hide h2.store
  have HR := hide h2.row
  obtain ⟨v67, h67⟩ := h2.refs
  have hf := h2.free
  clear h2 W HT
  go_wp2
  go_ret
  refine ⟨_, w.heap.size + 1 + 1 + 1, w.heap.size + 1 + 1 + 1 + 1 + 1, w.heap.size + 1 + 1 + 1 + 1, rfl, ?_, ?_⟩
  · refine ⟨?_, ?_, ?_, ?_, ?_, ?_, ?_, ?_, ?_, ?_, ?_⟩
    · go_simp
    · go_simp
    · intro j hj
      match j, hj with
      | 0, _ => go_simp
      | 1, _ => go_simp
      | 2, _ => go_simp
      | 3, _ => go_simp
      | 4, _ => go_simp
    · intro j hj
      match j, hj with
      | 0, _ => go_simp
      | 1, _ => go_simp
      | 2, _ => go_simp
      | 3, _ => go_simp
      | 4, _ => go_simp
    · go_simp
    · go_simp
    · go_simp
    · go_simp
    · have h := unhide HS
      go_simp
    · have h := unhide HR
      go_simp
    · intro u hu
      have h := unhide HT2 u hu
      go_simp
  · exact ((unhide HB).setCell (by simp <;> omega) _).alloc (by simp [World.setCell] <;> omega) _
end Go.Proofs.Qxb6616202a
