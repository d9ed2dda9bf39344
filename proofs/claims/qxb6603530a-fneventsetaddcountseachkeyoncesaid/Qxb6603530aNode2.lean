import Derived.Test.Qxb6603530aNode
namespace Go.Proofs.Qxb6603530a
open Go.ChangeShapes Go.WideShapes Go.ChangeAt Go.RowKit
open MapV

/-- What 'NodeLog.Add' leaves behind at a node event. -/
def NodePost (sB : Nat) (x : SV) (τ : Nat → Tag) (n' : Nat) (K : List Ev) (w w' : World) : Prop :=
  ∃ τ' nm fn, w'.rowIs sB 45 11 (sv { x with nm := nm, nl := x.nl + 1 }) ∧ Nodes τ' nm fn n' K w' ∧ Step Tag.isNode sB τ τ' w w'

/-- On the way, the node of e on the move. -/
structure NM (w : World) (τ0 : Nat → Tag) (x : SV) (K : List Ev) (e : Ev) (sB mB kB : Nat) (st : Bool) (ro : Int) (τ : Nat → Tag) (nm : Option Nat) (fn : Value → Option Value) (n : Nat) (W : World) : Prop where
  row : W.rowIs sB 45 11 (sv { x with nm := nm })
  map : MapO Try.prog 95 W nm fn n
  tag : ∀ b, nm = some b → τ b = .nodes
  at_ : ∀ c s, ¬ (c = e.clu ∧ s = e.subj) → NodeAt τ (fn (nameVal c s)) c s (ofNode K c s) W
  mr : W.rowIs mB 93 3 (mc st ro)
  kr : W.rowIs kB 95 2 (nmc e)
  fr : Fr (May Tag.isNode τ0 sB w.heap.size) w W
  tags : ∀ k, k < w.heap.size → τ k = τ0 k
  sb : sB < w.heap.size
  ts : τ sB = .other
  tm : τ mB = .other
  tk : τ kB = .other

section
variable {w : World} {τ0 : Nat → Tag} {x : SV} {K : List Ev} {e : Ev} {sB eB mB kB : Nat} {st : Bool} {ro : Int} {τ : Nat → Tag} {nm : Option Nat} {fn : Value → Option Value} {n : Nat} {W : World}

theorem NA.toNM (h : NA w τ0 x K e sB eB mB st ro τ nm fn n W) : NM w τ0 x K e sB mB W.heap.size st ro (tagAt τ W.heap.size .other) nm fn n (W.alloc (.cells #[.string e.clu, .string e.subj] 95)) :=
  have g := h.alloc (.cells #[.string e.clu, .string e.subj] 95) .other
  ⟨g.row, g.nodes.map, g.nodes.tag, fun c s _ => g.nodes.at_ c s, g.mr, World.rowIs_alloc W #[.string e.clu, .string e.subj] 95 (nmc e) (fun i hi => match i, hi with | 0, _ => rfl | 1, _ => rfl), g.fr, g.tags, g.sb, g.ts, g.tm, tagAt_same _ _ _⟩

theorem NM.ne (h : NM w τ0 x K e sB mB kB st ro τ nm fn n W) {b : Nat} (hb : (τ b).isNode) : b ≠ sB ∧ b ≠ mB ∧ b ≠ kB :=
  ⟨fun e => by rw [e, h.ts] at hb; exact hb, fun e => by rw [e, h.tm] at hb; exact hb, fun e => by rw [e, h.tk] at hb; exact hb⟩
theorem NM.may (h : NM w τ0 x K e sB mB kB st ro τ nm fn n W) {b : Nat} (hb : (τ b).isNode) : May Tag.isNode τ0 sB w.heap.size b := by
  by_cases e : b < w.heap.size
  · exact .inr (.inl (by rw [← h.tags b e]; exact hb))
  · exact .inr (.inr (by omega))

theorem NM.touch {τ' : Nat → Tag} {W' : World} (h : NM w τ0 x K e sB mB kB st ro τ nm fn n W) (ht : ∀ k, k < W.heap.size → τ' k = τ k)
    (hb : ∀ k, k < W.heap.size → τ k ≠ .node e.clu e.subj → τ k ≠ .marks e.clu e.subj → W'.heap[k]? = W.heap[k]?) (fr : Fr (May Tag.isNode τ0 sB w.heap.size) w W') : NM w τ0 x K e sB mB kB st ro τ' nm fn n W' := by
  refine ⟨h.row.of_block (hb _ h.row.lt (by rw [h.ts]; simp) (by rw [h.ts]; simp)), h.map.of_block fun b eb => hb b (h.map.lt eb) (by rw [h.tag b eb]; simp) (by rw [h.tag b eb]; simp), fun b eb => by rw [ht b (h.map.lt eb)]; exact h.tag b eb,
    fun c s hcs => (h.at_ c s hcs).move ht fun k hk ek => hb k hk ?_ ?_, h.mr.of_block (hb _ h.mr.lt (by rw [h.tm]; simp) (by rw [h.tm]; simp)), h.kr.of_block (hb _ h.kr.lt (by rw [h.tk]; simp) (by rw [h.tk]; simp)), fr,
    fun k hk => by rw [ht k (Nat.lt_of_lt_of_le hk h.fr.size)]; exact h.tags k hk, h.sb, by rw [ht _ h.row.lt]; exact h.ts, by rw [ht _ h.mr.lt]; exact h.tm, by rw [ht _ h.kr.lt]; exact h.tk⟩
  · rcases ek with ek | ek
    · rw [ek]; intro h'; injection h' with h1 h2; exact hcs ⟨h1, h2⟩
    · rw [ek]; simp
  · rcases ek with ek | ek
    · rw [ek]; simp
    · rw [ek]; intro h'; injection h' with h1 h2; exact hcs ⟨h1, h2⟩
theorem NM.drewN (h : NM w τ0 x K e sB mB kB st ro τ nm fn n W) (k : Nat) : NM w τ0 x K e sB mB kB st ro τ nm fn n (W.drewN k) := h.touch (fun _ _ => rfl) (fun _ _ _ _ => rfl) (h.fr.drewN k)
theorem NM.drew (h : NM w τ0 x K e sB mB kB st ro τ nm fn n W) : NM w τ0 x K e sB mB kB st ro τ nm fn n W.drew := h.touch (fun _ _ => rfl) (fun _ _ _ _ => rfl) h.fr.drew
theorem NM.alloc (h : NM w τ0 x K e sB mB kB st ro τ nm fn n W) (o : Obj) (t : Tag) : NM w τ0 x K e sB mB kB st ro (tagAt τ W.heap.size t) nm fn n (W.alloc o) :=
  h.touch (fun k hk => tagAt_other _ _ (by omega)) (fun k hk _ _ => Go.Deep.blk_alloc_lt _ _ _ hk) (h.fr.alloc _)
/-- A store into the node's own block. -/
theorem NM.store (h : NM w τ0 x K e sB mB kB st ro τ nm fn n W) {nb : Nat} (hn : τ nb = .node e.clu e.subj) (j : Nat) (v : Value) : NM w τ0 x K e sB mB kB st ro τ nm fn n (W.setCell ⟨nb, j, none⟩ v) :=
  h.touch (fun _ _ => rfl) (fun k _ h1 _ => Go.Deep.blk_setCell_other _ _ _ _ (fun e2 => h1 (e2 ▸ hn))) (h.fr.setCell (a := ⟨nb, j, none⟩) (h.may (by rw [hn]; trivial)) _)
/-- An append to the node's row. -/
theorem NM.grown {v : Value} {gg : Nat} {W1 : World} (h : NM w τ0 x K e sB mB kB st ro τ nm fn n W) (hv : ∀ g, v.ownBlock = some g → τ g = .marks e.clu e.subj) (hg : W.grownBy W1 v.ownBlock) (hat : v.ownBlock = some gg ∨ gg = W.heap.size) :
    NM w τ0 x K e sB mB kB st ro (tagAt τ gg (.marks e.clu e.subj)) nm fn n W1 := by
  refine h.touch (fun k hk => ?_) (fun k hk _ h2 => hg.block k hk (fun e2 => h2 (hv k e2.symm))) (h.fr.grown hg (fun k ek => h.may (by rw [hv k ek]; trivial)))
  by_cases ek : k = gg
  · subst ek
    rcases hat with e1 | e1
    · rw [tagAt_same, hv k e1]
    · omega
  · exact tagAt_other _ _ ek
/-- The map is turned at the name. -/
theorem NM.put {b n' : Nat} {o : Option Value} {W' : World} (h : NM w τ0 x K e sB mB kB st ro τ (some b) fn n W) (hm : MapF Try.prog 95 W' b (upd fn (nameVal e.clu e.subj) o) n') (ht : Turned b W W') :
    NM w τ0 x K e sB mB kB st ro τ (some b) (upd fn (nameVal e.clu e.subj) o) n' W' := by
  have hb := h.tag b rfl
  have hn : (τ b).isNode := by rw [hb]; trivial
  have ob : ∀ k, τ k ≠ .nodes → W'.heap[k]? = W.heap[k]? := fun k e1 => ht.block k (fun e2 => e1 (e2 ▸ hb))
  refine ⟨h.row.of_block (ob _ (by rw [h.ts]; simp)), hm, h.tag, fun c s hcs => ?_, h.mr.of_block (ob _ (by rw [h.tm]; simp)), h.kr.of_block (ob _ (by rw [h.tk]; simp)), h.fr.turned ht (h.may hn), h.tags, h.sb, h.ts, h.tm, h.tk⟩
  rw [upd_other _ _ (fun e1 => hcs (nameVal_inj e1))]
  exact (h.at_ c s hcs).move (fun _ _ => rfl) (fun k _ ek => ob k (by rcases ek with ek | ek <;> (rw [ek]; simp)))

theorem sameNode_true {c s : ByteArray} {e : Ev} (h : sameNode c s e = true) : c = e.clu ∧ s = e.subj := by
  simp only [sameNode, Bool.and_eq_true, sbeq_true] at h
  exact ⟨h.2.1.symm, h.2.2.symm⟩
theorem sameNode_self {e : Ev} (h : isNd e = true) : sameNode e.clu e.subj e = true := by
  simp [sameNode, h]

/-- The end: the count is stored. -/
theorem NM.done (h : NM w τ0 x K e sB mB kB st ro τ nm fn n W) (he : isNd e = true) (hat : NodeAt τ (fn (nameVal e.clu e.subj)) e.clu e.subj (ofNode K e.clu e.subj ++ [e]) W) :
    NodePost sB x τ0 n (K ++ [e]) w (W.setCell ⟨sB, 5, none⟩ (.int .i64 (x.nl + 1))) := by
  have ob : ∀ k, (τ k).isNode → (W.setCell ⟨sB, 5, none⟩ (.int .i64 (x.nl + 1))).heap[k]? = W.heap[k]? := fun k hk => Go.Deep.blk_setCell_other _ _ _ _ (h.ne hk).1
  refine ⟨τ, nm, fn, (h.row.set 5 _).congr (sv_nl _ _), ⟨h.map.of_block fun b eb => ob b (by rw [h.tag b eb]; trivial), h.tag, fun c s => ?_⟩, h.tags, h.fr.setCell (.inl rfl) _⟩
  have mv : ∀ {L}, NodeAt τ (fn (nameVal c s)) c s L W → NodeAt τ (fn (nameVal c s)) c s L (W.setCell ⟨sB, 5, none⟩ (.int .i64 (x.nl + 1))) := fun hL => hL.move (fun _ _ => rfl) (fun k _ ek => ob k (by rcases ek with ek | ek <;> (rw [ek]; trivial)))
  by_cases hcs : c = e.clu ∧ s = e.subj
  · obtain ⟨rfl, rfl⟩ := hcs
    rw [ofNode_same K e (sameNode_self he)]
    exact mv hat
  · rw [ofNode_other K e (by cases hh : sameNode c s e with | false => rfl | true => exact absurd (sameNode_true hh) hcs)]
    exact mv (h.at_ c s hcs)
end
end Go.Proofs.Qxb6603530a
