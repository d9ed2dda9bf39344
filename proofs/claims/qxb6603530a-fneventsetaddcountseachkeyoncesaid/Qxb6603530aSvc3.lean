import Derived.Test.Qxb6603530aSvc2
namespace Go.Proofs.Qxb6603530a
open Go.ChangeShapes Go.WideShapes Go.ChangeAt Go.RowKit
open MapV

theorem evc_facts {W : World} {eB : Nat} {e : Ev} (h : W.rowIs eB 56 13 (evc e)) :
    W.cell? ⟨eB, 2, none⟩ = some (.string e.typ) ∧ W.cell? ⟨eB, 3, none⟩ = some (.string e.subj) ∧ W.cell? ⟨eB, 4, none⟩ = some (.int .u64 0) ∧ W.cell? ⟨eB, 5, none⟩ = some (.int .i64 0) ∧ W.cell? ⟨eB, 6, none⟩ = some (.pointer none) ∧ W.cell? ⟨eB, 9, none⟩ = some (.int .u8 0) ∧ W.cell? ⟨eB, 10, none⟩ = some (.slice none 0 0) ∧ W.cell? ⟨eB, 11, none⟩ = some (.int .i64 0) :=
  ⟨h.cell (i := 2) (by omega), h.cell (i := 3) (by omega), h.cell (i := 4) (by omega), h.cell (i := 5) (by omega), h.cell (i := 6) (by omega), h.cell (i := 9) (by omega), h.cell (i := 10) (by omega), h.cell (i := 11) (by omega)⟩

section
variable {w : World} {τ0 : Nat → Tag} {x : SV} {K : List Ev} {s : ByteArray} {sB : Nat} {τ : Nat → Tag} {sm : Option Nat} {fs : Value → Option Value} {n : Nat} {W W1 : World} {hb gg cap d i : Nat} {v1 v2 : Value} {o : Obj} {ys : List Value}
/-- Behind the append to the deployments. -/
theorem Hist.next1 (h : SM w τ0 x K s sB τ sm fs n W) (hh : Hist τ hb s d i v1 v2 W)
    (hown : W1.ownsRow 0 103 5 (.slice (some ⟨gg, 0, none⟩) (d + 1) cap) (d + 1) ys) (hg : (W.alloc o).drew.grownBy W1 v1.ownBlock) (hat : v1.ownBlock = some gg ∨ gg = W.heap.size + 1) :
    ∃ τ', SM w τ0 x K s sB τ' sm fs n (W1.setCell ⟨hb, 0, none⟩ (.slice (some ⟨gg, 0, none⟩) (d + 1) cap)) ∧ Hist τ' hb s (d + 1) i (.slice (some ⟨gg, 0, none⟩) (d + 1) cap) v2 (W1.setCell ⟨hb, 0, none⟩ (.slice (some ⟨gg, 0, none⟩) (d + 1) cap)) := by
  obtain ⟨xs, h1⟩ := hh.own1
  obtain ⟨zs, h2⟩ := hh.own2
  have hsz : (W.alloc o).drew.heap.size = W.heap.size + 1 := Go.Deep.nblk_alloc _ _
  have l1 := fun g hg => (h1.lt g hg).2
  have l2 := fun g hg => (h2.lt g hg).2
  have ht1 : ∀ k, k < W.heap.size → tagAt τ W.heap.size .other k = τ k := fun k hk => tagAt_other _ _ (by omega)
  have g1 := (h.alloc o .other).drew.grown (gg := gg) (t := .deps s) (.inr (.inl rfl)) (fun g hg => by rw [ht1 g (l1 g hg)]; exact hh.tag1 g hg) hg (by rw [hsz]; exact hat)
  have hlt := hh.row.lt
  have hgh : gg ≠ hb := by
    rcases hat with e1 | e1
    · intro e2
      have := hh.tag1 gg e1
      rw [e2, hh.tag] at this
      cases this
    · omega
  have hth : tagAt (tagAt τ W.heap.size .other) gg (.deps s) hb = .svc s := by rw [tagAt_other _ _ (fun e => hgh e.symm), ht1 hb hlt]; exact hh.tag
  have hrow : W1.rowIs hb 89 2 (hv v1 v2) := (hh.row.alloc o).of_block (hg.block hb (by rw [hsz]; omega) (fun e2 => by have := hh.tag1 hb e2.symm; rw [hh.tag] at this; cases this))
  have hgs : ∀ g, v2.ownBlock = some g → g ≠ gg := fun g hg e => by
    rcases hat with e1 | e1
    · have := hh.tag1 gg e1
      rw [← e, hh.tag2 g hg] at this
      cases this
    · have := l2 g hg; omega
  refine ⟨_, g1.store hth 0 _, hth, (hrow.set 0 _).congr (fun j hj => match j, hj with | 0, _ => rfl | 1, _ => rfl), ⟨ys, owns_move hown (fun g hg => Go.Deep.blk_setCell_other _ _ _ _ (fun e2 => ?_))⟩, fun g hg => ?_, ⟨zs, owns_move h2 (fun g hg' => ?_)⟩, fun g hg' => ?_⟩
  · have : g = gg := by simpa [Value.ownBlock] using hg.symm
    exact hgh (by rw [← this, e2])
  · have : g = gg := by simpa [Value.ownBlock] using hg.symm
    rw [this]; exact tagAt_same _ _ _
  · rw [Go.Deep.blk_setCell_other _ _ _ _ (fun e2 => by have := hh.tag2 g hg'; rw [e2, hh.tag] at this; cases this), hg.block g (by rw [hsz]; have := l2 g hg'; omega) (fun e2 => by have := hh.tag1 g e2.symm; rw [hh.tag2 g hg'] at this; cases this)]
    exact Go.Deep.blk_alloc_lt _ _ _ (l2 g hg')
  · rw [tagAt_other _ _ (hgs g hg'), ht1 g (l2 g hg')]; exact hh.tag2 g hg'
/-- Behind the append to the samples. -/
theorem Hist.next2 (h : SM w τ0 x K s sB τ sm fs n W) (hh : Hist τ hb s d i v1 v2 W)
    (hown : W1.ownsRow 0 105 4 (.slice (some ⟨gg, 0, none⟩) (i + 1) cap) (i + 1) ys) (hg : (W.alloc o).drew.grownBy W1 v2.ownBlock) (hat : v2.ownBlock = some gg ∨ gg = W.heap.size + 1) :
    ∃ τ', SM w τ0 x K s sB τ' sm fs n (W1.setCell ⟨hb, 1, none⟩ (.slice (some ⟨gg, 0, none⟩) (i + 1) cap)) ∧ Hist τ' hb s d (i + 1) v1 (.slice (some ⟨gg, 0, none⟩) (i + 1) cap) (W1.setCell ⟨hb, 1, none⟩ (.slice (some ⟨gg, 0, none⟩) (i + 1) cap)) := by
  obtain ⟨xs, h1⟩ := hh.own2
  obtain ⟨zs, h2⟩ := hh.own1
  have hsz : (W.alloc o).drew.heap.size = W.heap.size + 1 := Go.Deep.nblk_alloc _ _
  have l1 := fun g hg => (h1.lt g hg).2
  have l2 := fun g hg => (h2.lt g hg).2
  have ht1 : ∀ k, k < W.heap.size → tagAt τ W.heap.size .other k = τ k := fun k hk => tagAt_other _ _ (by omega)
  have g1 := (h.alloc o .other).drew.grown (gg := gg) (t := .samps s) (.inr (.inr rfl)) (fun g hg => by rw [ht1 g (l1 g hg)]; exact hh.tag2 g hg) hg (by rw [hsz]; exact hat)
  have hlt := hh.row.lt
  have hgh : gg ≠ hb := by
    rcases hat with e1 | e1
    · intro e2
      have := hh.tag2 gg e1
      rw [e2, hh.tag] at this
      cases this
    · omega
  have hth : tagAt (tagAt τ W.heap.size .other) gg (.samps s) hb = .svc s := by rw [tagAt_other _ _ (fun e => hgh e.symm), ht1 hb hlt]; exact hh.tag
  have hrow : W1.rowIs hb 89 2 (hv v1 v2) := (hh.row.alloc o).of_block (hg.block hb (by rw [hsz]; omega) (fun e2 => by have := hh.tag2 hb e2.symm; rw [hh.tag] at this; cases this))
  have hgs : ∀ g, v1.ownBlock = some g → g ≠ gg := fun g hg e => by
    rcases hat with e1 | e1
    · have := hh.tag2 gg e1
      rw [← e, hh.tag1 g hg] at this
      cases this
    · have := l2 g hg; omega
  refine ⟨_, g1.store hth 1 _, hth, (hrow.set 1 _).congr (fun j hj => match j, hj with | 0, _ => rfl | 1, _ => rfl), ⟨zs, owns_move h2 (fun g hg' => ?_)⟩, fun g hg' => ?_, ⟨ys, owns_move hown (fun g hg => Go.Deep.blk_setCell_other _ _ _ _ (fun e2 => ?_))⟩, fun g hg => ?_⟩
  · rw [Go.Deep.blk_setCell_other _ _ _ _ (fun e2 => by have := hh.tag1 g hg'; rw [e2, hh.tag] at this; cases this), hg.block g (by rw [hsz]; have := l2 g hg'; omega) (fun e2 => by have := hh.tag2 g e2.symm; rw [hh.tag1 g hg'] at this; cases this)]
    exact Go.Deep.blk_alloc_lt _ _ _ (l2 g hg')
  · rw [tagAt_other _ _ (hgs g hg'), ht1 g (l2 g hg')]; exact hh.tag1 g hg'
  · have : g = gg := by simpa [Value.ownBlock] using hg.symm
    exact hgh (by rw [← this, e2])
  · have : g = gg := by simpa [Value.ownBlock] using hg.symm
    rw [this]; exact tagAt_same _ _ _

end

/-- Behind the append to the executions. -/
theorem exec_done {w : World} {x : SV} {K : List Ev} {sB : Nat} {τ : Nat → Tag} {fs : Value → Option Value} {n gg cap : Nat} {W1 : World} {o1 o2 : Obj} {ys : List Value} {e : Ev} (hr : w.rowIs sB 45 11 (sv x)) (hk : Svcs τ x.sm fs n x.ex K w) (ts : τ sB = .other) (hx : isEx e = true ∧ isDep e = false ∧ isIns e = false)
    (hown : W1.ownsRow 0 50 3 (.slice (some ⟨gg, 0, none⟩) (nEx K + 1) cap) (nEx K + 1) ys) (hg : ((w.alloc o1).alloc o2).drew.grownBy W1 x.ex.ownBlock) (hat : x.ex.ownBlock = some gg ∨ gg = w.heap.size + 2) :
    SvcPost sB x τ n (K ++ [e]) w (W1.setCell ⟨sB, 10, none⟩ (.slice (some ⟨gg, 0, none⟩) (nEx K + 1) cap)) := by
  obtain ⟨⟨xs, h1⟩, h2⟩ := hk.exec
  have hsz : ((w.alloc o1).alloc o2).drew.heap.size = w.heap.size + 2 := by
    show ((w.alloc o1).alloc o2).heap.size = _
    rw [Go.Deep.nblk_alloc, Go.Deep.nblk_alloc]
  have hs := hr.lt
  have l1 := fun g hg => (h1.lt g hg).2
  have ob0 : ∀ k, k < w.heap.size → ((w.alloc o1).alloc o2).drew.heap[k]? = w.heap[k]? := fun k hk => by
    show ((w.alloc o1).alloc o2).heap[k]? = _
    rw [Go.Deep.blk_alloc_lt _ _ _ (by rw [Go.Deep.nblk_alloc]; omega), Go.Deep.blk_alloc_lt _ _ _ hk]
  have ob1 : ∀ k, k < w.heap.size → τ k ≠ .execs → W1.heap[k]? = w.heap[k]? := fun k hk e1 => by
    rw [hg.block k (by rw [hsz]; omega) (fun e2 => e1 (h2 k e2.symm)), ob0 k hk]
  have ht : ∀ k, k < w.heap.size → tagAt τ gg .execs k = τ k := fun k hk => by
    by_cases ek : k = gg
    · subst ek
      rcases hat with e1 | e1
      · rw [tagAt_same, h2 k e1]
      · omega
    · exact tagAt_other _ _ ek
  have hgs : gg ≠ sB := by
    rcases hat with e1 | e1
    · intro e2
      have := h2 gg e1
      rw [e2, ts] at this
      cases this
    · omega
  have ob : ∀ k, k < w.heap.size → τ k ≠ .execs → k ≠ sB → (W1.setCell ⟨sB, 10, none⟩ (.slice (some ⟨gg, 0, none⟩) (nEx K + 1) cap)).heap[k]? = w.heap[k]? := fun k hk e1 e2 => by
    rw [Go.Deep.blk_setCell_other _ _ _ _ e2]; exact ob1 k hk e1
  have hne : ∀ k, (τ k).isSvc → k ≠ sB := fun k h e1 => by rw [e1, ts] at h; exact h
  refine ⟨tagAt τ gg .execs, x.sm, fs, .slice (some ⟨gg, 0, none⟩) (nEx K + 1) cap, ((hr.of_block (ob1 _ hs (by rw [ts]; simp))).set 10 _).congr (sv_ex _ _), ⟨hk.map.of_block fun b eb => ob b (hk.map.lt eb) (by rw [hk.tag b eb]; simp) (hne b (by rw [hk.tag b eb]; trivial)), fun b eb => by rw [ht b (hk.map.lt eb)]; exact hk.tag b eb, fun s => ?_, ?_⟩, ht, ?_⟩
  · rw [nDep_snoc, nIns_snoc, hx.2.1, hx.2.2]
    exact (hk.at_ s).move ht (fun k hk' ek => ob k hk' (by rcases ek with ek | ek | ek <;> (rw [ek]; simp)) (hne k (ofSvc_isSvc ek)))
  · rw [nEx_snoc, hx.1]
    refine ⟨⟨ys, owns_move hown fun g hg => Go.Deep.blk_setCell_other _ _ _ _ (fun e2 => ?_)⟩, fun g hg => ?_⟩
    · have : g = gg := by simpa [Value.ownBlock] using hg.symm
      exact hgs (by rw [← this, e2])
    · have : g = gg := by simpa [Value.ownBlock] using hg.symm
      rw [this]; exact tagAt_same _ _ _
  · refine ((((Fr.refl _ _).alloc _).alloc _).drew.grown hg (fun k ek => ?_)).setCell (.inl rfl) _
    exact .inr (.inl (by rw [h2 k ek]; trivial))
theorem Svcs.skip {τ : Nat → Tag} {sm : Option Nat} {fs : Value → Option Value} {n : Nat} {ex : Value} {K : List Ev} {w : World} (h : Svcs τ sm fs n ex K w) {e : Ev} (hx : isEx e = false ∧ isDep e = false ∧ isIns e = false) : Svcs τ sm fs n ex (K ++ [e]) w :=
  ⟨h.map, h.tag, fun s => by rw [nDep_snoc, nIns_snoc, hx.2.1, hx.2.2]; exact h.at_ s, by rw [nEx_snoc, hx.1]; exact h.exec⟩
theorem kinds_ex (e : Ev) (h3 : (e.typ.toList == kExecuted) = true) : isEx e = true ∧ isDep e = false ∧ isIns e = false := by
  have ht : e.typ.toList = kExecuted := by simpa using h3
  refine ⟨h3, by simp [isDep, ht], by simp [isIns, ht]⟩

set_option maxRecDepth 100000 in
set_option maxHeartbeats 1000000 in
theorem svcAdd_none (sB : Nat) (e : Ev) (w : World) (h1 : (e.typ.toList == kDeployed) = false) (h2 : (e.typ.toList == kInstances) = false) (h3 : (e.typ.toList == kExecuted) = false) :
    Calls Try.prog 28 #[.pointer (some ⟨sB, 9, none⟩), evtVal e] w fun r w' => r = .returned (.tuple #[]) ∧ Below w.heap.size w w' := by
  unfold evtVal
  go_enter Try.func28, Try.ntmps28
  go_wp2
  go_end0
  exact ⟨rfl, (Below.refl _ _).alloc (Nat.le_refl _) _⟩

set_option maxRecDepth 100000 in
set_option maxHeartbeats 4000000 in
theorem svcAdd_ex (sB : Nat) (x : SV) (τ : Nat → Tag) (fs : Value → Option Value) (n : Nat) (K : List Ev) (e : Ev) (w : World) (hr : w.rowIs sB 45 11 (sv x)) (hk : Svcs τ x.sm fs n x.ex K w) (ts : τ sB = .other)
    (hlen : Hid (K.length ≤ 4096)) (h1 : (e.typ.toList == kDeployed) = false) (h2 : (e.typ.toList == kInstances) = false) (h3 : (e.typ.toList == kExecuted) = true) :
    Calls Try.prog 28 #[.pointer (some ⟨sB, 9, none⟩), evtVal e] w fun r w' => r = .returned (.tuple #[]) ∧ SvcPost sB x τ n (K ++ [e]) w w' := by
  have HX : Hid (isEx e = true ∧ isDep e = false ∧ isIns e = false) := kinds_ex e h3
  have HR : Hid (w.rowIs sB 45 11 (sv x) ∧ Svcs τ x.sm fs n x.ex K w) := ⟨hr, hk⟩
  have hsb := hr.lt
  have hev := evc_row w e
  obtain ⟨⟨xs, hown⟩, htx⟩ := hk.exec
  have hown' : ((w.alloc (.cells (evArr e) 56)).alloc (.cells #[.int .u64 0, .int .i64 0, .pointer none] 50)).drew.ownsRow 0 50 3 x.ex (nEx K) xs := (hown.alloc _).alloc _
  have hvs : x.ex.ownBlock ≠ some sB := fun e2 => by have := htx sB e2; rw [ts] at this; cases this
  have hcn : nEx K ≤ 4096 := Nat.le_trans (List.countP_le_length) hlen.out
  have ch : (w.alloc (.cells (evArr e) 56)).cell? ⟨sB, 10, none⟩ = some x.ex := (hr.alloc _).cell (i := 10) (by omega)
  have ah : ((w.alloc (.cells (evArr e) 56)).alloc (.cells #[.int .u64 0, .int .i64 0, .pointer none] 50)).cell? ⟨sB, 10, none⟩ = some x.ex := ((hr.alloc _).alloc _).cell (i := 10) (by omega)
  have az : ((w.alloc (.cells (evArr e) 56)).alloc (.cells #[.int .u64 0, .int .i64 0, .pointer none] 50)).drew.frozen? ⟨sB, 10, none⟩ = false := ((hr.alloc _).alloc _).frozen 10
  obtain ⟨i0, hi0, hz0, hz1, hz2⟩ := info_parts Try.info50
  clear hr hk
  unfold evArr at ch ah az hown'
  unfold evtVal
  go_enter Try.func28, Try.ntmps28
  go_wp2
  go_region_law
    ((refine step_append_lies _ (by rfl) _ _ _ (by rfl) 0 50 i0 _ 3 24 Try.underlying41 hi0 hz0 hz1 hz2 rfl (by omega) x.ex (nEx K) xs (by rfl) hown'
        ⟨w.heap.size + 1, 0, none⟩ 1 1 [.int .u64 0, .int .i64 0, .pointer none] (by rfl) (by rfl) (World.news_of_block (cs := #[.int .u64 0, .int .i64 0, .pointer none]) (t := 50) (fr := (0, 0)) (by rw [← Go.Deep.nblk_alloc w]; exact Go.Deep.blk_alloc_new _ _)) (by simp [Value.oneCell'])
        (by omega) (by unfold maxLen; omega) (by omega) (by omega) (w.heap.size + 2) (by simp [World.drew]) ?_; intro gg cap1 w6 hown6 hgrow hat hlt6
      have n0 : w6.cell? ⟨sB, 10, none⟩ = some x.ex := (hgrow.cell_far ⟨sB, 10, none⟩ (by simp [World.drew]; omega) (fun e2 => hvs e2.symm)).trans ah
      have nz : w6.frozen? ⟨sB, 10, none⟩ = false := (hgrow.frozen_far ⟨sB, 10, none⟩ (by simp [World.drew]; omega) (fun e2 => hvs e2.symm)).trans az))
  all_goals
    have hP := exec_done HR.out.1 HR.out.2 ts HX.out hown6 hgrow hat
    clear hown6 hgrow hat hlt6
    go_wp2
    go_end0
    exact ⟨rfl, hP⟩

theorem kinds_dep (e : Ev) (h1 : (e.typ.toList == kDeployed) = true) : isEx e = false ∧ isDep e = true ∧ isIns e = false := by
  have ht : e.typ.toList = kDeployed := by simpa using h1
  simp [isEx, isDep, isIns, ht]
theorem kinds_ins (e : Ev) (h1 : (e.typ.toList == kDeployed) = false) (h2 : (e.typ.toList == kInstances) = true) : isEx e = false ∧ isDep e = false ∧ isIns e = true := by
  have ht : e.typ.toList = kInstances := by simpa using h2
  refine ⟨by simp [isEx, ht], h1, h2⟩

end Go.Proofs.Qxb6603530a
