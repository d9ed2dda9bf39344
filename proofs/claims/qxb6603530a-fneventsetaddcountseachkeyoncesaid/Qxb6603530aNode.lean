import Derived.Test.Qxb6603530aKeep6
namespace Go.Proofs.Qxb6603530a
open Go.ChangeShapes Go.WideShapes Go.ChangeAt Go.RowKit
open MapV

/-! ### The nodes' part of the set -/
def isSt (e : Ev) : Bool := e.typ.toList == kStarted
def isNd (e : Ev) : Bool := e.typ.toList == kStarted || e.typ.toList == kStopped
def sameNode (c s : ByteArray) (e : Ev) : Bool := isNd e && (e.clu.toList == c.toList && e.subj.toList == s.toList)
def ofNode (K : List Ev) (c s : ByteArray) : List Ev := K.filter (sameNode c s)
def roleOf (e : Ev) : Int := if isSt e then e.role else 0
def zeroAt : Int := -62135596800
def markCells (e : Ev) : List Value := [.int .i64 zeroAt, .bool (isSt e), .int .u8 (roleOf e)]
def nameVal (c s : ByteArray) : Value := .agg #[.string c, .string s]
theorem nameVal_inj {c s c' s' : ByteArray} (h : nameVal c s = nameVal c' s') : c = c' ∧ s = s' := by
  simpa [nameVal] using h

def nv (v : Value) (n : Nat) : Nat → Value
  | 0 => v
  | _ => .int .i64 (n : Int)

def NodeAt (τ : Nat → Tag) (o : Option Value) (c s : ByteArray) (L : List Ev) (w : World) : Prop :=
  (o = none ∧ L = []) ∨ ∃ nb v, o = some (.pointer (some ⟨nb, 0, none⟩)) ∧ L ≠ [] ∧ τ nb = .node c s ∧ w.rowIs nb 99 2 (nv v L.length) ∧ w.ownsRow 0 93 3 v L.length (L.flatMap markCells) ∧ ∀ g, v.ownBlock = some g → τ g = .marks c s

theorem NodeAt.move {τ τ' : Nat → Tag} {o : Option Value} {c s : ByteArray} {L : List Ev} {w w' : World} (h : NodeAt τ o c s L w) (ht : ∀ k, k < w.heap.size → τ' k = τ k) (hb : ∀ k, k < w.heap.size → τ k = .node c s ∨ τ k = .marks c s → w'.heap[k]? = w.heap[k]?) : NodeAt τ' o c s L w' := by
  rcases h with h | ⟨nb, v, h1, h2, h3, h4, h5, h6⟩
  · exact .inl h
  · have hlt := fun g hg => (h5.lt g hg).2
    exact .inr ⟨nb, v, h1, h2, by rw [ht nb h4.lt]; exact h3, h4.of_block (hb nb h4.lt (.inl h3)), owns_move h5 (fun g hg => hb g (hlt g hg) (.inr (h6 g hg))), fun g hg => by rw [ht g (hlt g hg)]; exact h6 g hg⟩

structure Nodes (τ : Nat → Tag) (nm : Option Nat) (fn : Value → Option Value) (n : Nat) (K : List Ev) (w : World) : Prop where
  map : MapO Try.prog 95 w nm fn n
  tag : ∀ b, nm = some b → τ b = .nodes
  at_ : ∀ c s, NodeAt τ (fn (nameVal c s)) c s (ofNode K c s) w

theorem Nodes.move {τ τ' : Nat → Tag} {nm : Option Nat} {fn : Value → Option Value} {n : Nat} {K : List Ev} {w w' : World} (h : Nodes τ nm fn n K w) (ht : ∀ k, k < w.heap.size → τ' k = τ k) (hb : ∀ k, k < w.heap.size → (τ k).isNode → w'.heap[k]? = w.heap[k]?) : Nodes τ' nm fn n K w' := by
  refine ⟨h.map.of_block fun b e => hb b (h.map.lt e) (by rw [h.tag b e]; trivial), fun b e => by rw [ht b (h.map.lt e)]; exact h.tag b e, fun c s => (h.at_ c s).move ht fun k hk e => hb k hk ?_⟩
  rcases e with e | e <;> (rw [e]; trivial)

theorem ofNode_other (K : List Ev) (e : Ev) {c s : ByteArray} (h : sameNode c s e = false) : ofNode (K ++ [e]) c s = ofNode K c s := by
  simp [ofNode, h]
theorem ofNode_same (K : List Ev) (e : Ev) {c s : ByteArray} (h : sameNode c s e = true) : ofNode (K ++ [e]) c s = ofNode K c s ++ [e] := by
  simp [ofNode, h]

/-- An event that is no node event. -/
theorem Nodes.skip {τ : Nat → Tag} {nm : Option Nat} {fn : Value → Option Value} {n : Nat} {K : List Ev} {w : World} (h : Nodes τ nm fn n K w) {e : Ev} (he : isNd e = false) : Nodes τ nm fn n (K ++ [e]) w :=
  ⟨h.map, h.tag, fun c s => by rw [ofNode_other K e (by simp [sameNode, he])]; exact h.at_ c s⟩

/-! ### The boxes -/
def evc (e : Ev) : Nat → Value
  | 0 => .string e.src
  | 1 => .string e.id
  | 2 => .string e.typ
  | 3 => .string e.subj
  | 4 => .int .u64 0
  | 5 => .int .i64 0
  | 6 => .pointer none
  | 7 => .string e.clu
  | 8 => .int .u8 e.role
  | 9 => .int .u8 0
  | 10 => .slice none 0 0
  | 11 => .int .i64 0
  | _ => .slice none 0 0
def evArr (e : Ev) : Array Value := #[.string e.src, .string e.id, .string e.typ, .string e.subj, .int .u64 0, .int .i64 0, .pointer none, .string e.clu, .int .u8 e.role, .int .u8 0, .slice none 0 0, .int .i64 0, .slice none 0 0]
theorem evc_row (w : World) (e : Ev) : (w.alloc (.cells (evArr e) 56)).rowIs w.heap.size 56 13 (evc e) :=
  World.rowIs_alloc w (evArr e) 56 (evc e) (fun i hi => match i, hi with
    | 0, _ => rfl | 1, _ => rfl | 2, _ => rfl | 3, _ => rfl | 4, _ => rfl | 5, _ => rfl | 6, _ => rfl | 7, _ => rfl | 8, _ => rfl | 9, _ => rfl | 10, _ => rfl | 11, _ => rfl | 12, _ => rfl)
def mc (st : Bool) (ro : Int) : Nat → Value
  | 0 => .int .i64 zeroAt
  | 1 => .bool st
  | _ => .int .u8 ro
def nmc (e : Ev) : Nat → Value
  | 0 => .string e.clu
  | _ => .string e.subj

/-- On the way, before the name is laid. -/
structure NA (w : World) (τ0 : Nat → Tag) (x : SV) (K : List Ev) (e : Ev) (sB eB mB : Nat) (st : Bool) (ro : Int) (τ : Nat → Tag) (nm : Option Nat) (fn : Value → Option Value) (n : Nat) (W : World) : Prop where
  row : W.rowIs sB 45 11 (sv { x with nm := nm })
  nodes : Nodes τ nm fn n K W
  evr : W.rowIs eB 56 13 (evc e)
  mr : W.rowIs mB 93 3 (mc st ro)
  fr : Fr (May Tag.isNode τ0 sB w.heap.size) w W
  tags : ∀ k, k < w.heap.size → τ k = τ0 k
  sb : sB < w.heap.size
  eb : w.heap.size ≤ eB
  em : eB < mB
  ts : τ sB = .other
  te : τ eB = .other
  tm : τ mB = .other

section
variable {w : World} {τ0 : Nat → Tag} {x : SV} {K : List Ev} {e : Ev} {sB eB mB : Nat} {st : Bool} {ro : Int} {τ : Nat → Tag} {nm : Option Nat} {fn : Value → Option Value} {n : Nat} {W : World}

theorem NA.start {W1 : World} (hr : w.rowIs sB 45 11 (sv x)) (hk : Nodes τ0 x.nm fn n K w) (ts : τ0 sB = .other) (hb : Below (w.alloc (.cells (evArr e) 56)).heap.size (w.alloc (.cells (evArr e) 56)) W1) :
    NA w τ0 x K e sB w.heap.size W1.heap.size false 0 (tagAt (tagAt τ0 w.heap.size .other) W1.heap.size .other) x.nm fn n (W1.alloc (.cells #[.int .i64 zeroAt, .bool false, .int .u8 0] 93)) := by
  have hsz : w.heap.size + 1 ≤ W1.heap.size := by have := hb.size; rwa [Go.Deep.nblk_alloc] at this
  have ob : ∀ k, k < w.heap.size + 1 → (W1.alloc (.cells #[.int .i64 zeroAt, .bool false, .int .u8 0] 93)).heap[k]? = (w.alloc (.cells (evArr e) 56)).heap[k]? := fun k hk => by
    rw [Go.Deep.blk_alloc_lt _ _ _ (by omega), hb.block k (by rw [Go.Deep.nblk_alloc]; exact hk)]
  have ob' : ∀ k, k < w.heap.size → (W1.alloc (.cells #[.int .i64 zeroAt, .bool false, .int .u8 0] 93)).heap[k]? = w.heap[k]? := fun k hk => by
    rw [ob k (by omega), Go.Deep.blk_alloc_lt _ _ _ hk]
  have ht : ∀ k, k < w.heap.size → tagAt (tagAt τ0 w.heap.size .other) W1.heap.size .other k = τ0 k := fun k hk => by
    rw [tagAt_other _ _ (by omega), tagAt_other _ _ (by omega)]
  refine ⟨hr.of_block (ob' _ hr.lt), hk.move ht (fun k hk _ => ob' k hk), (evc_row w e).of_block (ob _ (by omega)), World.rowIs_alloc W1 #[.int .i64 zeroAt, .bool false, .int .u8 0] 93 (mc false 0) (fun i hi => match i, hi with | 0, _ => rfl | 1, _ => rfl | 2, _ => rfl), (((Fr.refl _ _).alloc _).beneath hb).alloc _, ht, hr.lt, Nat.le_refl _, by omega, by rw [ht _ hr.lt]; exact ts, by rw [tagAt_other _ _ (by omega)]; exact tagAt_same _ _ _, tagAt_same _ _ _⟩

/-- The event's boxes and the set's block, in a world where they are as they were. -/
theorem NA.keep {τ' : Nat → Tag} {W' : World} (h : NA w τ0 x K e sB eB mB st ro τ nm fn n W) (ht : ∀ k, k < W.heap.size → τ' k = τ k) (hb : ∀ k, k < W.heap.size → W'.heap[k]? = W.heap[k]?) (fr : Fr (May Tag.isNode τ0 sB w.heap.size) w W') : NA w τ0 x K e sB eB mB st ro τ' nm fn n W' :=
  ⟨h.row.of_block (hb _ h.row.lt), h.nodes.move ht (fun k hk _ => hb k hk), h.evr.of_block (hb _ h.evr.lt), h.mr.of_block (hb _ h.mr.lt), fr, fun k hk => by rw [ht k (Nat.lt_of_lt_of_le hk h.fr.size)]; exact h.tags k hk, h.sb, h.eb, h.em, by rw [ht _ h.row.lt]; exact h.ts, by rw [ht _ h.evr.lt]; exact h.te, by rw [ht _ h.mr.lt]; exact h.tm⟩
theorem NA.drewN (h : NA w τ0 x K e sB eB mB st ro τ nm fn n W) (k : Nat) : NA w τ0 x K e sB eB mB st ro τ nm fn n (W.drewN k) := h.keep (fun _ _ => rfl) (fun _ _ => rfl) (h.fr.drewN k)
theorem NA.drew (h : NA w τ0 x K e sB eB mB st ro τ nm fn n W) : NA w τ0 x K e sB eB mB st ro τ nm fn n W.drew := h.keep (fun _ _ => rfl) (fun _ _ => rfl) h.fr.drew
theorem NA.alloc (h : NA w τ0 x K e sB eB mB st ro τ nm fn n W) (o : Obj) (t : Tag) : NA w τ0 x K e sB eB mB st ro (tagAt τ W.heap.size t) nm fn n (W.alloc o) := h.keep (fun k hk => tagAt_other _ _ (by omega)) (fun k hk => Go.Deep.blk_alloc_lt _ _ _ hk) (h.fr.alloc _)

/-- The two stores of a start. -/
theorem NA.started (h : NA w τ0 x K e sB eB mB false 0 τ nm fn n W) (r : Int) : NA w τ0 x K e sB eB mB true r τ nm fn n ((W.setCell ⟨mB, 1, none⟩ (.bool true)).setCell ⟨mB, 2, none⟩ (.int .u8 r)) := by
  have hme : mB ≠ sB := by have := h.sb; have := h.eb; have := h.em; omega
  have ob : ∀ k, k ≠ mB → ((W.setCell ⟨mB, 1, none⟩ (.bool true)).setCell ⟨mB, 2, none⟩ (.int .u8 r)).heap[k]? = W.heap[k]? := fun k hk => by
    rw [Go.Deep.blk_setCell_other _ _ _ _ hk, Go.Deep.blk_setCell_other _ _ _ _ hk]
  have hmy : May Tag.isNode τ0 sB w.heap.size mB := .inr (.inr (by have := h.eb; have := h.em; omega))
  refine ⟨h.row.of_block (ob _ (fun e => hme e.symm)), h.nodes.move (fun _ _ => rfl) (fun k hk hn => ob k (fun e => by rw [e, h.tm] at hn; exact hn)), h.evr.of_block (ob _ (by have := h.em; omega)), ((h.mr.set 1 _).set 2 _).congr (fun j hj => ?_), (h.fr.setCell (a := ⟨mB, 1, none⟩) hmy _).setCell (a := ⟨mB, 2, none⟩) hmy _, h.tags, h.sb, h.eb, h.em, h.ts, h.te, h.tm⟩
  match j, hj with
  | 0, _ => rfl
  | 1, _ => rfl
  | 2, _ => rfl

/-- The map is made. -/
theorem NA.mkNodes (h : NA w τ0 x K e sB eB mB st ro τ none fn n W) :
    NA w τ0 x K e sB eB mB st ro (tagAt τ W.heap.size .nodes) (some W.heap.size) fn n ((W.alloc (.map #[] 0)).setCell ⟨sB, 4, none⟩ (.map (some W.heap.size))) := by
  have hs := h.row.lt
  have hse : sB ≠ eB := by have := h.sb; have := h.eb; omega
  have hsm : sB ≠ mB := by have := h.sb; have := h.eb; have := h.em; omega
  have hel := h.evr.lt
  have hml := h.mr.lt
  have ht : ∀ k, k < W.heap.size → tagAt τ W.heap.size .nodes k = τ k := fun k hk => tagAt_other _ _ (by omega)
  have ob : ∀ k, k < W.heap.size → k ≠ sB → ((W.alloc (.map #[] 0)).setCell ⟨sB, 4, none⟩ (.map (some W.heap.size))).heap[k]? = W.heap[k]? := fun k hk hne => by
    rw [Go.Deep.blk_setCell_other _ _ _ _ hne, Go.Deep.blk_alloc_lt _ _ _ hk]
  have hn := h.nodes.move (τ' := tagAt τ W.heap.size .nodes) (w' := (W.alloc (.map #[] 0)).setCell ⟨sB, 4, none⟩ (.map (some W.heap.size))) ht (fun k hk hn => ob k hk (fun e => by rw [e, h.ts] at hn; exact hn))
  have h1 := h.nodes.map
  refine ⟨((h.row.alloc _).set 4 _).congr (sv_nm _ _), ⟨?_, fun b hb => by injection hb with hb; subst hb; exact tagAt_same _ _ _, hn.at_⟩, h.evr.of_block (ob _ hel (fun e => hse e.symm)), h.mr.of_block (ob _ hml (fun e => hsm e.symm)), (h.fr.alloc _).setCell (.inl rfl) _, fun k hk => by rw [ht k (Nat.lt_of_lt_of_le hk h.fr.size)]; exact h.tags k hk, h.sb, h.eb, h.em, by rw [ht _ hs]; exact h.ts, by rw [ht _ hel]; exact h.te, by rw [ht _ hml]; exact h.tm⟩
  have hnew : MapF Try.prog 95 (W.alloc (.map #[] 0)) W.heap.size fn n := by rw [h1.2, nil_eq h1]; exact MapF.new _ _ _
  exact MapF.of_block hnew (Go.Deep.blk_setCell_other _ _ _ _ (by simp; omega))
end
end Go.Proofs.Qxb6603530a
