import Derived.Test.Qxb6603530aNode2
namespace Go.Proofs.Qxb6603530a
open Go.ChangeShapes Go.WideShapes Go.ChangeAt Go.RowKit
open MapV

theorem nil29 (w : World) : (binOp .eql 29 (.map none) (.map none)).run Try.prog w = .ok (.bool true) w := by kernel_rfl
theorem some29 (b : Nat) (w : World) : (binOp .eql 29 (.map (some b)) (.map none)).run Try.prog w = .ok (.bool false) w := by kernel_rfl
theorem pnil96 (w : World) : (binOp .eql 96 (.pointer none) (.pointer none)).run Try.prog w = .ok (.bool true) w := by kernel_rfl
theorem psome96 (a : Addr) (w : World) : (binOp .eql 96 (.pointer (some a)) (.pointer none)).run Try.prog w = .ok (.bool false) w := by kernel_rfl
theorem results_nil {fn : Func} (h : fn.results = #[]) (tmps : Array Value) (P : Program) (w : World) : (results fn tmps).run P w = .ok (.tuple #[]) w := by
  simp [results, h]

theorem ev_behind (w : World) (e : Ev) {w1 : World} (hb : Below (w.alloc (.cells (evArr e) 56)).heap.size (w.alloc (.cells (evArr e) 56)) w1) (o : Obj) {j : Nat} (hj : j < 13) : (w1.alloc o).cell? ⟨w.heap.size, j, none⟩ = some (evc e j) :=
  (((evc_row w e).of_block (hb.block _ (by simp))).alloc o).cell hj

theorem NA.facts {w : World} {τ0 : Nat → Tag} {x : SV} {K : List Ev} {e : Ev} {sB eB mB : Nat} {st : Bool} {ro : Int} {τ : Nat → Tag} {nm : Option Nat} {fn : Value → Option Value} {n : Nat} {W : World} (h : NA w τ0 x K e sB eB mB st ro τ nm fn n W) :
    W.cell? ⟨eB, 2, none⟩ = some (.string e.typ) ∧ W.cell? ⟨eB, 3, none⟩ = some (.string e.subj) ∧ W.cell? ⟨eB, 7, none⟩ = some (.string e.clu) ∧ W.cell? ⟨eB, 8, none⟩ = some (.int .u8 e.role) ∧ W.cell? ⟨sB, 4, none⟩ = some (.map nm) ∧ (∀ j, W.frozen? ⟨sB, j, none⟩ = false) :=
  ⟨h.evr.cell (i := 2) (by omega), h.evr.cell (i := 3) (by omega), h.evr.cell (i := 7) (by omega), h.evr.cell (i := 8) (by omega), h.row.cell (i := 4) (by omega), h.row.frozen⟩
theorem NA.marks {w : World} {τ0 : Nat → Tag} {x : SV} {K : List Ev} {e : Ev} {sB eB mB : Nat} {st : Bool} {ro : Int} {τ : Nat → Tag} {nm : Option Nat} {fn : Value → Option Value} {n : Nat} {W : World} (h : NA w τ0 x K e sB eB mB st ro τ nm fn n W) :
    W.cell? ⟨mB, 1, none⟩ = some (.bool st) ∧ W.cell? ⟨mB, 2, none⟩ = some (.int .u8 ro) ∧ (∀ j, W.frozen? ⟨mB, j, none⟩ = false) :=
  ⟨h.mr.cell (i := 1) (by omega), h.mr.cell (i := 2) (by omega), h.mr.frozen⟩

set_option maxRecDepth 100000 in
set_option maxHeartbeats 1000000 in
theorem nodeAdd_none (sB : Nat) (e : Ev) (w : World) (h1 : (e.typ.toList == kStarted) = false) (h2 : (e.typ.toList == kStopped) = false) :
    Calls Try.prog 27 #[.pointer (some ⟨sB, 4, none⟩), evtVal e] w fun r w' => r = .returned (.tuple #[]) ∧ Below w.heap.size w w' := by
  unfold evtVal
  go_enter Try.func27, Try.ntmps27
  go_wp2_with (go_at_call 33; refine (unix_any _).mono ?_; rintro r w1 ⟨rfl, hb1⟩; have q2 : ∀ o, (w1.alloc o).cell? ⟨w.heap.size, 2, none⟩ = some (.string e.typ) := fun o => ev_behind w e hb1 o (j := 2) (by omega))
  refine bodyPost_ret (results_nil rfl _ _ _) rfl ?_
  exact ⟨rfl, (((Below.refl _ _).alloc (Nat.le_refl _) _).trans (hb1.mono (by simp))).alloc (by have := hb1.size; simp at this; omega) _⟩

theorem nodeLook {w : World} {τ0 : Nat → Tag} {x : SV} {K : List Ev} {e : Ev} {sB mB kB : Nat} {st : Bool} {ro : Int} {τ : Nat → Tag} {nm : Option Nat} {fn : Value → Option Value} {n : Nat} {W : World} (h : NM w τ0 x K e sB mB kB st ro τ nm fn n W) (hc : e.clu.size ≤ maxLen) (hs : e.subj.size ≤ maxLen) {v : Value} (hv : got false (.pointer none) (fn (nameVal e.clu e.subj)) = v) (k : Nat) :
    (Instr.lookup 29 (.map nm) (.agg #[.string e.clu, .string e.subj]) false).run Try.prog (W.drewN k) = .ok v (W.drewN k) := by
  subst hv
  obtain ⟨l, hl⟩ := key95 e.clu e.subj hc hs
  exact MapO.look (w := W.drewN k) keyed95 Try.underlying29 (h.map.of_block fun _ _ => rfl) hl (zero96 _) false

theorem NM.facts {w : World} {τ0 : Nat → Tag} {x : SV} {K : List Ev} {e : Ev} {sB mB kB : Nat} {st : Bool} {ro : Int} {τ : Nat → Tag} {nm : Option Nat} {fn : Value → Option Value} {n : Nat} {W : World} (h : NM w τ0 x K e sB mB kB st ro τ nm fn n W) :
    W.cell? ⟨sB, 4, none⟩ = some (.map nm) ∧ W.cell? ⟨sB, 5, none⟩ = some (.int .i64 x.nl) ∧ W.frozen? ⟨sB, 5, none⟩ = false ∧ W.cell? ⟨kB, 0, none⟩ = some (.string e.clu) ∧ W.cell? ⟨kB, 1, none⟩ = some (.string e.subj) ∧ W.cell? ⟨mB, 0, none⟩ = some (.int .i64 (-62135596800)) ∧ W.cell? ⟨mB, 1, none⟩ = some (.bool st) ∧ W.cell? ⟨mB, 2, none⟩ = some (.int .u8 ro) :=
  ⟨h.row.cell (i := 4) (by omega), h.row.cell (i := 5) (by omega), h.row.frozen 5, h.kr.cell (i := 0) (by omega), h.kr.cell (i := 1) (by omega), h.mr.cell (i := 0) (by omega), h.mr.cell (i := 1) (by omega), h.mr.cell (i := 2) (by omega)⟩

/-- The node at hand: its block and its row. -/
structure ND (e : Ev) (τ : Nat → Tag) (nb : Nat) (v : Value) (l : Nat) (L : List Ev) (W : World) : Prop where
  tag : τ nb = .node e.clu e.subj
  row : W.rowIs nb 99 2 (nv v l)
  own : W.ownsRow 0 93 3 v l (L.flatMap markCells)
  tags : ∀ g, v.ownBlock = some g → τ g = .marks e.clu e.subj

/-- Behind the append and its store. -/
theorem ND.next {w : World} {τ0 : Nat → Tag} {x : SV} {K : List Ev} {e : Ev} {sB mB kB : Nat} {st : Bool} {ro : Int} {τ : Nat → Tag} {nm : Option Nat} {fn : Value → Option Value} {n : Nat} {W W1 : World} {nb l gg cap : Nat} {v : Value} {L : List Ev} (h : NM w τ0 x K e sB mB kB st ro τ nm fn n W) (d : ND e τ nb v l L W) (hL : L.length = l) (hLK : L = ofNode K e.clu e.subj) (he : isNd e = true) (hst : isSt e = st) (hro : roleOf e = ro) (hfn : fn (nameVal e.clu e.subj) = some (.pointer (some ⟨nb, 0, none⟩))) (o : Obj)
    (hown : W1.ownsRow 0 93 3 (.slice (some ⟨gg, 0, none⟩) (l + 1) cap) (l + 1) (L.flatMap markCells ++ [.int .i64 (-62135596800), .bool st, .int .u8 ro]))
    (hg : (((W.setCell ⟨nb, 1, none⟩ (.int .i64 ((l : Int) + 1))).alloc o)).drew.grownBy W1 v.ownBlock) (hat : v.ownBlock = some gg ∨ gg = W.heap.size + 1) :
    NodePost sB x τ0 n (K ++ [e]) w ((W1.setCell ⟨nb, 0, none⟩ (.slice (some ⟨gg, 0, none⟩) (l + 1) cap)).setCell ⟨sB, 5, none⟩ (.int .i64 (x.nl + 1))) := by
  have h1 := ((h.store d.tag 1 (.int .i64 ((l : Int) + 1))).alloc o .other).drew
  have hsz : ((W.setCell ⟨nb, 1, none⟩ (.int .i64 ((l : Int) + 1))).alloc o).drew.heap.size = W.heap.size + 1 := by simp [World.setCell, World.drew]
  have hsz0 : (W.setCell ⟨nb, 1, none⟩ (.int .i64 ((l : Int) + 1))).heap.size = W.heap.size := by simp [World.setCell]
  have hlv := fun g hg => (d.own.lt g hg).2
  have ht1 : ∀ k, k < W.heap.size → tagAt τ (W.setCell ⟨nb, 1, none⟩ (.int .i64 ((l : Int) + 1))).heap.size .other k = τ k := fun k hk => tagAt_other _ _ (by omega)
  have h2 := h1.grown (gg := gg) (fun g hg => by rw [ht1 g (hlv g hg)]; exact d.tags g hg) hg (by rw [hsz]; exact hat)
  have hnlt := d.row.lt
  have hggn : gg ≠ nb := by
    rcases hat with e1 | e1
    · intro e2
      have := d.tags gg e1
      rw [e2, d.tag] at this
      cases this
    · omega
  have htn : tagAt (tagAt τ (W.setCell ⟨nb, 1, none⟩ (.int .i64 ((l : Int) + 1))).heap.size .other) gg (.marks e.clu e.subj) nb = .node e.clu e.subj := by
    rw [tagAt_other _ _ (fun e2 => hggn e2.symm), ht1 nb hnlt]; exact d.tag
  have h3 := h2.store htn 0 (.slice (some ⟨gg, 0, none⟩) (l + 1) cap)
  have hrow1 : W1.rowIs nb 99 2 (nv v (l + 1)) := by
    have r1 := (((d.row.set 1 (.int .i64 ((l : Int) + 1))).alloc o).drew).of_block (w' := W1) (hg.block nb (by rw [hsz]; omega) (fun e2 => by have := d.tags nb e2.symm; rw [d.tag] at this; cases this))
    exact r1.congr (fun j hj => match j, hj with | 0, _ => rfl | 1, _ => rfl)
  have hrow : (W1.setCell ⟨nb, 0, none⟩ (.slice (some ⟨gg, 0, none⟩) (l + 1) cap)).rowIs nb 99 2 (nv (.slice (some ⟨gg, 0, none⟩) (l + 1) cap) (l + 1)) :=
    (hrow1.set 0 _).congr (fun j hj => match j, hj with | 0, _ => rfl | 1, _ => rfl)
  have hlen : (ofNode K e.clu e.subj ++ [e]).length = l + 1 := by rw [← hLK]; simp [hL]
  refine h3.done he (.inr ⟨nb, .slice (some ⟨gg, 0, none⟩) (l + 1) cap, hfn, by simp, htn, by rw [hlen]; exact hrow, ?_, fun g hg => ?_⟩)
  · rw [hlen, ← hLK, List.flatMap_append]
    have : [e].flatMap markCells = [.int .i64 (-62135596800), .bool st, .int .u8 ro] := by simp [markCells, hst, hro, zeroAt]
    rw [this]
    refine owns_move hown fun g hg => Go.Deep.blk_setCell_other _ _ _ _ (fun e2 => ?_)
    have : g = gg := by simpa [Value.ownBlock] using hg.symm
    exact hggn (by rw [← this, e2])
  · have : g = gg := by simpa [Value.ownBlock] using hg.symm
    rw [this]
    exact tagAt_same _ _ _

end Go.Proofs.Qxb6603530a
