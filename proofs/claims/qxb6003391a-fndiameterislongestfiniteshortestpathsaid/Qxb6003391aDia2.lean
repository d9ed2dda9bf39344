import Derived.Test.Qxb6003391aBase
import Derived.Test.Qxb6003391aDiaMath
import Derived.BigRegion
import Derived.OwnWalk
import Derived.Laws.Pointers
import Derived.Deep.RegionHeld3
import Derived.Deep.RegionLaw
import Derived.Deep.AppendLies
import Derived.ArgAppend
import Derived.Maps.AppendAt
import Derived.Deep.DrawnRows
import Derived.Deep.Light
namespace Go.Proofs.Qxb6003391a.Dia
open Go.ChangeShapes Go.WideShapes Go.ChangeAt Go.RowKit

theorem Try.info56 : (Try.prog.info? 56).map (fun i => (i.zero, i.size, i.bytes)) = some (some (.slice none 0 0), 1, 24) := by kernel_rfl

/-- What cell x of the links' row holds. -/
def lkv (F T : Nat → Nat) (x : Nat) : Value := .int .i64 (if x % 2 = 0 then (F (x / 2) : Int) else (T (x / 2) : Int))
theorem lkv_even (F T : Nat → Nat) (k : Nat) : lkv F T (k * 2) = .int .i64 (F k) := by simp [lkv]
theorem lkv_odd (F T : Nat → Nat) (k : Nat) : lkv F T (k * 2 + 1) = .int .i64 (T k) := by
  have e : (k * 2 + 1) / 2 = k := by omega
  have e2 : (k * 2 + 1) % 2 = 1 := by omega
  simp [lkv, e, e2]

/-- The targets of the first k links that leave u. -/
def adj (F T : Nat → Nat) (u : Nat) : Nat → List Nat
  | 0 => []
  | k + 1 => if F k = u then adj F T u k ++ [T k] else adj F T u k
theorem adj_len (F T : Nat → Nat) (u k : Nat) : (adj F T u k).length ≤ k := by
  induction k with
  | zero => simp [adj]
  | succ k ih => unfold adj; split <;> (try simp only [List.length_append, List.length_singleton]) <;> omega

def ival (v : Nat) : Value := .int .i64 (v : Int)

/-- The table of rows, behind k links. -/
structure OutK (F T : Nat → Nat) (bo base n k : Nat) (w : World) (V : Nat → Value) : Prop where
  row : w.rowIs bo 56 n V
  own : ∀ u, u < n → w.ownsRow base 3 1 (V u) (adj F T u k).length ((adj F T u k).map ival)
  sep : ∀ u v, u < n → v < n → u ≠ v → (V u).ownBlock = none ∨ (V u).ownBlock ≠ (V v).ownBlock
  lt : bo < base
  hb : base ≤ w.heap.size

theorem OutK.alloc {F T : Nat → Nat} {bo base n k : Nat} {w : World} {V : Nat → Value} (h : OutK F T bo base n k w V) (o : Obj) : OutK F T bo base n k (w.alloc o) V :=
  ⟨h.row.alloc o, fun u hu => (h.own u hu).alloc o, h.sep, h.lt, by have := h.hb; simp; omega⟩

theorem OutK.start (F T : Nat → Nat) (n : Nat) (w : World) : OutK F T w.heap.size (w.heap.size + 1) n 0 (w.alloc (.cells (madeCells #[.slice none 0 0] n) 56)) (fun _ => .slice none 0 0) :=
  ⟨World.rowIs_made _ _ _ _, fun _ _ => World.ownsRow_nil _ _ _ _, fun _ _ _ _ _ => .inl rfl, by omega, by simp⟩

/-- A link more: its source's row has grown, the table's cell was stored. -/
theorem OutK.step {F T : Nat → Nat} {bo base n k : Nat} {w w1 : World} {V : Nat → Value} (h : OutK F T bo base n k w V) (hu : F k < n) {v' : Value}
    (hown : w1.ownsRow base 3 1 v' ((adj F T (F k) k).length + 1) ((adj F T (F k) k).map ival ++ [ival (T k)])) (hg : w.grownBy w1 (V (F k)).ownBlock)
    {g : Nat} (hv' : v'.ownBlock = some g) (hat : (V (F k)).ownBlock = some g ∨ w.heap.size ≤ g) :
    OutK F T bo base n (k + 1) (w1.setCell ⟨bo, F k, none⟩ v') (fun j => if j = F k then v' else V j) := by
  have hlt : ∀ u, u < n → ∀ b, (V u).ownBlock = some b → base ≤ b ∧ b < w.heap.size := fun u hu b hb => (h.own u hu).lt b hb
  have hrow1 : w1.rowIs bo 56 n V := h.row.of_block (hg.block bo h.row.lt (fun e => by have := hlt (F k) hu bo e.symm; have := h.lt; omega))
  have keep : ∀ {v : Value} {m : Nat} {xs : List Value}, w1.ownsRow base 3 1 v m xs → (w1.setCell ⟨bo, F k, none⟩ v').ownsRow base 3 1 v m xs := fun ho => ownsRow_setCell_below ho (a := ⟨bo, F k, none⟩) h.lt _
  refine ⟨hrow1.set (F k) v', ?_, ?_, h.lt, ?_⟩
  · intro u hun
    by_cases e : u = F k
    · subst e
      simp only [if_true, adj]
      have := keep hown
      simpa [List.map_append] using this
    · simp only [if_neg e]
      rw [show adj F T u (k + 1) = adj F T u k by simp [adj, Ne.symm e]]
      exact keep ((h.own u hun).kept hg (h.sep u (F k) hun hu e))
  · intro u v hun hvn huv
    by_cases e : u = F k
    · subst e
      have e2 : v ≠ F k := fun e => huv e.symm
      simp only [if_true, if_neg e2]
      right
      rw [hv']
      intro e3
      rcases hat with ha | ha
      · rcases h.sep v (F k) hvn hu e2 with h1 | h1
        · rw [h1] at e3; cases e3
        · exact h1 (by rw [← e3, ha])
      · have := hlt v hvn g e3.symm; omega
    · simp only [if_neg e]
      by_cases e2 : v = F k
      · subst e2
        simp only [if_true]
        rw [hv']
        rcases hb : (V u).ownBlock with _ | b
        · exact .inl rfl
        · right
          intro e3
          injection e3 with e3
          subst e3
          rcases hat with ha | ha
          · rcases h.sep u (F k) hun hu e with h1 | h1
            · rw [h1] at hb; cases hb
            · exact h1 (by rw [hb, ha])
          · have := hlt u hun b hb; omega
      · simp only [if_neg e2]
        exact h.sep u v hun hvn huv
  · have := h.hb; have := hg.size; simp [World.setCell]; omega

theorem OutK.drew {F T : Nat → Nat} {bo base n k : Nat} {w : World} {V : Nat → Value} (h : OutK F T bo base n k w V) : OutK F T bo base n k w.drew V := ⟨h.row, h.own, h.sep, h.lt, h.hb⟩

/-- What one link does to the relation of the first loop. -/
theorem out_round {F T : Nat → Nat} {B n k : Nat} {w wr w1 : World} {V : Nat → Value} (hO : OutK F T B (B + 1) n k wr V) (hbk : Below B w wr) (hFk : F k < n) (A : Array Value) (A2 : Array Value) (g cap : Nat)
    (hown : w1.ownsRow (B + 1) 3 1 (.slice (some ⟨g, 0, none⟩) ((adj F T (F k) k).length + 1) cap) ((adj F T (F k) k).length + 1) ((adj F T (F k) k).map ival ++ [ival (T k)]))
    (hgrow : ((wr.alloc (.cells A 95)).alloc (.cells A2 3)).drew.grownBy w1 (V (F k)).ownBlock) (hat : (V (F k)).ownBlock = some g ∨ g = wr.heap.size + 2) :
    (∃ V', OutK F T B (B + 1) n (k + 1) (w1.setCell ⟨B, F k, none⟩ (.slice (some ⟨g, 0, none⟩) ((adj F T (F k) k).length + 1) cap)) V') ∧ Below B w (w1.setCell ⟨B, F k, none⟩ (.slice (some ⟨g, 0, none⟩) ((adj F T (F k) k).length + 1) cap)) := by
  have hlt := hO.row.lt
  refine ⟨⟨_, ((hO.alloc _).alloc _).drew.step hFk hown hgrow rfl (hat.imp id (fun h => by rw [h]; show ((wr.alloc _).alloc _).heap.size ≤ _; simp))⟩, Below.setCell (p := ⟨B, F k, none⟩) ?_ (Nat.le_refl _) _⟩
  refine Below.grown (w := ((wr.alloc (.cells A 95)).alloc (.cells A2 3)).drew) (((hbk.alloc (by omega) _).alloc (by simp; omega) _).drew) hgrow ?_ ?_
  · show B ≤ ((wr.alloc _).alloc _).heap.size; simp; omega
  · intro j hj; have := ((hO.own (F k) hFk).lt _ hj).1; show B ≤ j; omega

theorem heap_alloc_two (w : World) (a b : Obj) : ((w.alloc a).alloc b).heap[w.heap.size + 1]? = some b := by
  have := heap_alloc_new (w.alloc a) b
  rwa [Go.Deep.nblk_alloc] at this

theorem cell_two (w : World) (cs : Array Value) (t : TypeId) (o : Obj) (i : Nat) (v : Value) (h : cs[i]? = some v) : ((w.alloc (.cells cs t)).alloc o).cell? ⟨w.heap.size, i, none⟩ = some v := by
  have hb : ((w.alloc (.cells cs t)).alloc o).heap[w.heap.size]? = some (.cells cs t (0, 0)) := by
    rw [Go.Deep.blk_alloc_lt _ _ _ (by simp), Go.Deep.blk_alloc_new]
  simp [World.cell?, hb, h]


/-- The queue: a slice somewhere in a block of its own, from 'base' on. -/
def Qu (w : World) (base : Nat) (g off cap : Nat) (xs : List Nat) : Prop :=
  base ≤ g ∧ ∃ cur : Array Value, w.heap[g]? = some (.cells cur 3 (0, 0)) ∧ off + cap ≤ cur.size ∧ xs.length ≤ cap ∧ ∀ j, j < xs.length → cur[off + j]? = some (ival (xs.getD j 0))

theorem Qu.cell {w : World} {base g off cap : Nat} {xs : List Nat} (h : Qu w base g off cap xs) {j : Nat} (hj : j < xs.length) : w.cell? ⟨g, off + j, none⟩ = some (ival (xs.getD j 0)) := by
  obtain ⟨_, cur, hb, _, _, hc⟩ := h
  have := hc j hj
  simp only [World.cell?, hb, this]
  rfl

theorem Qu.of_block {w w' : World} {base g off cap : Nat} {xs : List Nat} (h : Qu w base g off cap xs) (e : w'.heap[g]? = w.heap[g]?) : Qu w' base g off cap xs := by
  obtain ⟨h0, cur, hb, r⟩ := h
  exact ⟨h0, cur, e.trans hb, r⟩

theorem Qu.lt {w : World} {base g off cap : Nat} {xs : List Nat} (h : Qu w base g off cap xs) : g < w.heap.size := by
  obtain ⟨_, cur, hb, _⟩ := h
  obtain ⟨hlt, _⟩ := Array.getElem?_eq_some_iff.1 hb
  exact hlt

theorem Qu.alloc {w : World} {base g off cap : Nat} {xs : List Nat} (h : Qu w base g off cap xs) (o : Obj) : Qu (w.alloc o) base g off cap xs := h.of_block (Go.Deep.blk_alloc_lt _ _ _ h.lt)
theorem Qu.setCell {w : World} {base g off cap : Nat} {xs : List Nat} (h : Qu w base g off cap xs) {a : Addr} (ha : g ≠ a.block) (v : Value) : Qu (w.setCell a v) base g off cap xs := h.of_block (Go.Deep.blk_setCell_other _ _ _ _ ha)

theorem Qu.start (w : World) (base x : Nat) (hb : base ≤ w.heap.size) : Qu (w.alloc (.cells #[ival x] 3)) base w.heap.size 0 1 [x] := by
  refine ⟨hb, _, Go.Deep.blk_alloc_new _ _, by simp, by simp, fun j hj => ?_⟩
  have : j = 0 := by simpa using hj
  subst this
  rfl

/-- 'queue[1:]', one more behind. -/
theorem Qu.pop {w : World} {base g off cap x : Nat} {xs : List Nat} (h : Qu w base g off cap (x :: xs)) (h2 : 1 < cap) : Qu w base g (off + 1) (cap - 1) xs := by
  obtain ⟨h0, cur, hb, hs, hl, hc⟩ := h
  simp only [List.length_cons] at hl hc
  refine ⟨h0, cur, hb, by omega, by omega, fun j hj => ?_⟩
  have := hc (j + 1) (by omega)
  rw [show off + 1 + j = off + (j + 1) by omega, this]
  simp
/-- 'queue[1:]' at the array's very end. -/
theorem Qu.pop0 {w : World} {base g off cap x : Nat} {xs : List Nat} (h : Qu w base g off cap (x :: xs)) (h2 : ¬ 1 < cap) : xs = [] ∧ Qu w base g off (cap - 1) xs := by
  obtain ⟨h0, cur, hb, hs, hl, hc⟩ := h
  simp only [List.length_cons] at hl
  have e : xs = [] := List.eq_nil_of_length_eq_zero (by omega)
  subst e
  exact ⟨rfl, h0, cur, hb, by omega, by simp, fun j hj => by simp at hj⟩

/-- 'queue = append(queue, x)'. -/
theorem wpList_append_queue (w : World) {ops : Array Oper} {rest : List Oper} {o : Oper} {a : Act} {Q : Exit → Act → World → Prop}
    (hg : o.guard = none) (s x : Operand) (hop : o.op = Op.call { callee := Callee.builtin Builtin.append, args := #[s, x], argTypes := #[56, 56] })
    (base g off cap : Nat) (xs : List Nat) (hs : a.eval s = .slice (some ⟨g, off, none⟩) xs.length cap) (y : Nat) (H : Nat) (hH : w.heap.size = H) (hx : a.eval x = .slice (some ⟨H, 0, none⟩) 1 1)
    (hq : Qu w base g off cap xs) (hlen : xs.length ≤ 1000)
    (hK : ∀ g' off' cap' w', Qu w' base g' off' cap' (xs ++ [y]) → w.grownBy w' (some g) → (g' = g ∨ w.heap.size ≤ g') → wpList Try.prog ops Q rest (a.put o.dst (.slice (some ⟨g', off', none⟩) (xs.length + 1) cap')) w') :
    wpList Try.prog ops Q (o :: rest) a (w.alloc (.cells #[ival y] 3)) := by
  subst hH
  obtain ⟨i0, hi, hz0, hz1, hz2⟩ := info_parts Try.info3
  have hqa := hq.alloc (.cells #[ival y] 3)
  have hltg := hq.lt
  refine wpList_append_arg (P := Try.prog) _ hg s x 56 hop 3 i0 _ 1 8 Try.underlying56 hi hz0 hz1 hz2 rfl (by omega) g off xs.length cap (xs.map ival) hs (by simp) ?_ ⟨w.heap.size, 0, none⟩ 1 1 [ival y] hx rfl (cell_one_new w _ _) (by simp [Value.oneCell', ival]) ?_ (by unfold maxLen; omega) (by omega) ?_ ?_
  · intro j u hj
    have hj' : j < xs.length := by
      rcases Nat.lt_or_ge j xs.length with h | h
      · exact h
      · simp [List.getElem?_eq_none (show (xs.map ival).length ≤ j by simpa using h)] at hj
    rw [hqa.cell hj']
    simp [hj'] at hj ⊢
    exact hj
  · intro hr j hj
    obtain ⟨_, cur, hb, hsz, _, _⟩ := hqa
    have e : j = 0 := by simpa using hj
    subst e
    have hlt : off + xs.length * 1 + 0 < cur.size := by omega
    refine ⟨by simp only [World.cell?, hb, Array.getElem?_eq_getElem hlt]; rfl, by simp [World.frozen?, hb]⟩
  · intro hr
    obtain ⟨h0, cur, hb, hsz, hl, hc⟩ := hqa
    refine hK g off cap _ ⟨h0, cur.setIfInBounds (off + xs.length) (ival y), ?_, by simpa using hsz, by simp; omega, fun j hj => ?_⟩ ?_ (.inl rfl)
    · simp [World.setCells, World.setCell, Array.getElem?_modify, hb]
    · simp only [List.length_append, List.length_singleton] at hj
      rw [Array.getElem?_setIfInBounds]
      by_cases e : j = xs.length
      · subst e
        rw [if_pos rfl, if_pos (by omega)]
        simp
      · rw [if_neg (by omega), hc j (by omega)]
        simp [List.getElem?_append_left (show j < xs.length by omega)]
    · refine ⟨rfl, rfl, rfl, ?_, fun k hk hne => ?_⟩
      · simp [World.setCells, World.setCell]
      · simp only [World.setCells]
        rw [Go.Deep.blk_setCell_other _ _ _ _ (fun e => hne (by rw [e])), Go.Deep.blk_alloc_lt _ _ _ hk]
  · intro hfull v' w' hown hgr
    obtain ⟨hlen2, hown⟩ := hown
    rcases hown with ⟨_, hn⟩ | ⟨g', cap', cur, rfl, hbg, hh, hnc, _, hcs, htk⟩
    · omega
    · have hs1 : (w.alloc (.cells #[ival y] 3)).heap.size = w.heap.size + 1 := Go.Deep.nblk_alloc _ _
      refine hK g' 0 cap' w' ⟨by have := hq.1; omega, cur, hh, by omega, by simpa using hnc, fun j hj => ?_⟩ ?_ (.inr (by omega))
      · simp only [List.length_append, List.length_singleton] at hj
        have h1 : (cur.toList.take ((xs.length + 1) * 1))[j]? = (xs.map ival ++ [ival y])[j]? := by rw [htk]
        rw [List.getElem?_take_of_lt (by omega)] at h1
        rw [Nat.zero_add, ← Array.getElem?_toList, h1]
        by_cases e : j = xs.length
        · subst e; simp
        · have hjl : j < xs.length := by omega
          rw [List.getElem?_append_left (by simpa using hjl)]
          simp [hjl, List.getElem?_append_left hjl]
      · refine ⟨hgr.os, hgr.tape, hgr.output, by have := hgr.size; omega, fun k hk hne => ?_⟩
        rw [hgr.block k (by omega) (by simp), Go.Deep.blk_alloc_lt _ _ _ hk]

end Go.Proofs.Qxb6003391a.Dia
