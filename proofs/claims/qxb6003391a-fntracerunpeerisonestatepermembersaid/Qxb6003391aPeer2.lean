import Derived.Test.Qxb6003391aPeer1
namespace Go.Proofs.Qxb6003391a.Peer
open Go.ChangeShapes Go.WideShapes Go.ChangeAt Go.RowKit
open MapV

structure Inv (B n : Nat) (wA : World) (L : List (Int × Nat)) (w : World) : Prop where
  bel : Below B wA w
  tr : TR B L w
  seen : w.ownsRow B 23 1 (.slice (some ⟨B + 2, 0, none⟩) L.length n) L.length (L.map idv)
  stat : w.ownsRow B 53 1 (.slice (some ⟨B + 3, 0, none⟩) L.length n) L.length (L.map ptv)
  blk : ∀ p ∈ L, B + 4 ≤ p.2
  wfs : ∀ p ∈ L, (Lit.int .u32 p.1).wf = true
  hs : B + 4 ≤ w.heap.size

theorem Inv.seenCell {B n : Nat} {wA w : World} {L : List (Int × Nat)} (h : Inv B n wA L w) {j : Nat} (hj : j < L.length) : w.cell? ⟨B + 2, j, none⟩ = some (.int .u32 (L.getD j (0, 0)).1) := by
  rw [h.seen.cellAt j (by omega)]
  simp [hj, idv]
theorem Inv.statCell {B n : Nat} {wA w : World} {L : List (Int × Nat)} (h : Inv B n wA L w) {j : Nat} (hj : j < L.length) : w.cell? ⟨B + 3, j, none⟩ = some (.pointer (some ⟨(L.getD j (0, 0)).2, 0, none⟩)) := by
  rw [h.stat.cellAt j (by omega)]
  simp [hj, ptv]
theorem getD_mem {L : List (Int × Nat)} {j : Nat} (hj : j < L.length) : L.getD j (0, 0) ∈ L := by
  simp [hj]
theorem Inv.ids {B n : Nat} {wA w : World} {L : List (Int × Nat)} (h : Inv B n wA L w) {i j : Nat} (hi : i < j) (hj : j < L.length) : (L.getD i (0, 0)).1 ≠ (L.getD j (0, 0)).1 := by
  have hnd := h.tr.map.nd
  simp only [ents, List.pairwise_map] at hnd
  have := (List.pairwise_iff_getElem.1 hnd) i j (by omega) hj hi
  simp only [List.getD_eq_getElem?_getD, List.getElem?_eq_getElem hj, List.getElem?_eq_getElem (Nat.lt_trans hi hj), Option.getD_some]
  intro e
  exact this (by simp [idv, e])
theorem Inv.stLt {B n : Nat} {wA w : World} {L : List (Int × Nat)} (h : Inv B n wA L w) : ∀ p ∈ L, p.2 < w.heap.size := fun p hp => by
  obtain ⟨c, hc⟩ := h.tr.st p hp
  exact (Array.getElem?_eq_some_iff.1 hc).1

theorem ownsRow_drewN {w : World} {base : Nat} {e : TypeId} {size : Nat} {v : Value} {n : Nat} {xs : List Value} (h : w.ownsRow base e size v n xs) (k : Nat) : (w.drewN k).ownsRow base e size v n xs := h
theorem Inv.drewN {B n : Nat} {wA w : World} {L : List (Int × Nat)} (h : Inv B n wA L w) (k : Nat) : Inv B n wA L (w.drewN k) :=
  ⟨below_drewN h.bel k, h.tr.keep rfl rfl (fun _ _ => rfl), ownsRow_drewN h.seen k, ownsRow_drewN h.stat k, h.blk, h.wfs, h.hs⟩

/-- Behind the call of peer at a new member: what was read before reads so still. -/
theorem Inv.after {B n : Nat} {wA w w1 : World} {L : List (Int × Nat)} (h : Inv B n wA L w) (hg : w.grownBy w1 (some B)) :
    w1.ownsRow B 23 1 (.slice (some ⟨B + 2, 0, none⟩) L.length n) L.length (L.map idv) ∧ w1.ownsRow B 53 1 (.slice (some ⟨B + 3, 0, none⟩) L.length n) L.length (L.map ptv) :=
  ⟨h.seen.kept hg (.inr (by simp [Value.ownBlock])), h.stat.kept hg (.inr (by simp [Value.ownBlock]))⟩

/-- A new member's round. -/
theorem Inv.next {B n : Nat} {wA w w1 w2 w3 : World} {L : List (Int × Nat)} {id : Int} (h : Inv B n wA L w) (hwf : (Lit.int .u32 id).wf = true)
    (htr : TR B (L ++ [(id, w.heap.size)]) w1) (hg1 : w.grownBy w1 (some B)) (o1 : Obj) (hg2 : (w1.alloc o1).grownBy w2 (some (B + 2)))
    (own2 : w2.ownsRow B 23 1 (.slice (some ⟨B + 2, 0, none⟩) (L.length + 1) n) (L.length + 1) (L.map idv ++ [.int .u32 id]))
    (o2 : Obj) (hg3 : (w2.alloc o2).grownBy w3 (some (B + 3))) (own3 : w3.ownsRow B 53 1 (.slice (some ⟨B + 3, 0, none⟩) (L.length + 1) n) (L.length + 1) (L.map ptv ++ [.pointer (some ⟨w.heap.size, 0, none⟩)])) :
    Inv B n wA (L ++ [(id, w.heap.size)]) w3 := by
  have hs := h.hs
  have z1 := hg1.size
  have z2 := hg2.size
  have z3 := hg3.size
  rw [Go.Deep.nblk_alloc] at z2 z3
  have k13 : ∀ k, k < w1.heap.size → k ≠ B + 2 → k ≠ B + 3 → w3.heap[k]? = w1.heap[k]? := fun k hk h2 h3 => by
    rw [hg3.block k (by rw [Go.Deep.nblk_alloc]; omega) (fun e => h3 (by injection e)), Go.Deep.blk_alloc_lt _ _ _ (by omega), hg2.block k (by rw [Go.Deep.nblk_alloc]; omega) (fun e => h2 (by injection e)), Go.Deep.blk_alloc_lt _ _ _ hk]
  have stlt : ∀ p ∈ L ++ [(id, w.heap.size)], p.2 < w1.heap.size := fun p hp => by
    obtain ⟨c, hc⟩ := htr.st p hp
    exact (Array.getElem?_eq_some_iff.1 hc).1
  have blk : ∀ p ∈ L ++ [(id, w.heap.size)], B + 4 ≤ p.2 := fun p hp => by
    rw [List.mem_append, List.mem_singleton] at hp
    rcases hp with hp | rfl
    · exact h.blk p hp
    · exact hs
  refine ⟨?_, ?_, ?_, ?_, blk, ?_, by omega⟩
  · have b1 : Below B wA w1 := h.bel.grown hg1 (by omega) (fun k hk => by injection hk with e; omega)
    have b2 : Below B wA w2 := (b1.alloc (by omega) o1).grown hg2 (by rw [Go.Deep.nblk_alloc]; omega) (fun k hk => by injection hk with e; omega)
    exact (b2.alloc (by omega) o2).grown hg3 (by rw [Go.Deep.nblk_alloc]; omega) (fun k hk => by injection hk with e; omega)
  · exact htr.keep (k13 B (by omega) (by omega) (by omega)) (k13 (B + 1) (by omega) (by omega) (by omega)) (fun p hp => k13 p.2 (stlt p hp) (by have := blk p hp; omega) (by have := blk p hp; omega))
  · have := (own2.alloc o2).kept hg3 (.inr (by simp [Value.ownBlock]))
    simpa [List.map_append, idv] using this
  · simpa [List.map_append, ptv] using own3
  · intro p hp
    rw [List.mem_append, List.mem_singleton] at hp
    rcases hp with hp | rfl
    · exact h.wfs p hp
    · exact hwf

theorem make_ids (n : Nat) (h : n ≤ 2048) (w : World) : (Instr.makeSlice 47 (.int .i64 0) (.int .i64 (n : Int))).run Try.prog w = .ok (.slice (some ⟨w.heap.size, 0, none⟩) 0 n) (w.alloc (.cells (madeCells #[.int .u32 0] n) 23)) := by
  obtain ⟨i, hi, hz, hs, hb⟩ := info_parts Try.info23
  have hr := run_make (P := Try.prog) w 47 23 i _ Try.underlying47 hi hz .i64 .i64 0 (n : Int) (by omega) (by omega) (by rw [hb]; omega) (by omega)
  simpa [hs, Value.cells] using hr
theorem make_sts (n : Nat) (h : n ≤ 2048) (w : World) : (Instr.makeSlice 52 (.int .i64 0) (.int .i64 (n : Int))).run Try.prog w = .ok (.slice (some ⟨w.heap.size, 0, none⟩) 0 n) (w.alloc (.cells (madeCells #[.pointer none] n) 53)) := by
  obtain ⟨i, hi, hz, hs, hb⟩ := info_parts Try.info53
  have hr := run_make (P := Try.prog) w 52 53 i _ Try.underlying52 hi hz .i64 .i64 0 (n : Int) (by omega) (by omega) (by rw [hb]; omega) (by omega)
  simpa [hs, Value.cells] using hr

theorem Inv.start {B n : Nat} {wA w : World} (htr : TR B [] w) (hsz : w.heap.size = B + 2) (hb : Below B wA w) (hn : n ≤ 2048) :
    Inv B n wA [] ((w.alloc (.cells (madeCells #[.int .u32 0] n) 23)).alloc (.cells (madeCells #[.pointer none] n) 53)) := by
  have h1 := World.ownsRow_made (base := B) (e := 23) (size := 1) w (madeCells #[.int .u32 0] n) n (by omega) (by unfold maxLen; omega) (by rw [size_madeCells]; omega)
  have h2 := World.ownsRow_made (base := B) (e := 53) (size := 1) (w.alloc (.cells (madeCells #[.int .u32 0] n) 23)) (madeCells #[.pointer none] n) n (by simp; omega) (by unfold maxLen; omega) (by rw [size_madeCells]; omega)
  rw [Go.Deep.nblk_alloc, hsz] at h2
  rw [hsz] at h1
  refine ⟨(hb.alloc (by omega) _).alloc (by simp; omega) _, ?_, h1.alloc _, h2, by simp, by simp, by simp; omega⟩
  exact htr.keep (by rw [Go.Deep.blk_alloc_lt _ _ _ (by simp; omega), Go.Deep.blk_alloc_lt _ _ _ (by omega)]) (by rw [Go.Deep.blk_alloc_lt _ _ _ (by simp; omega), Go.Deep.blk_alloc_lt _ _ _ (by omega)]) (by simp)
end Go.Proofs.Qxb6003391a.Peer
