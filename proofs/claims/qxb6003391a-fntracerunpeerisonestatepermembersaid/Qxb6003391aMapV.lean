import Derived.Maps.OwnSet
import Derived.WalkKit
import Derived.Below
import Derived.Deep.OwnRows
/- A map's block as the list of its entries, in the order in which the keys came. Over any program. -/
namespace Go.Proofs.Qxb6003391a.MapV
open Go.RowKit Go.Maps Go.WideShapes
open Go.ChangeMaps (setBlock modify_eq_set)

/-- w' is w but for block b, which is there still. -/
structure Turned (b : Nat) (w w' : World) : Prop where
  os : w'.os = w.os
  tape : w'.tape = w.tape
  output : w'.output = w.output
  size : w'.heap.size = w.heap.size
  block : ∀ k, k ≠ b → w'.heap[k]? = w.heap[k]?

theorem turned_set (w : World) (b : Nat) (o : Obj) : Turned b w (setBlock w b o) :=
  ⟨rfl, rfl, rfl, by simp [setBlock], fun k hk => by simp only [setBlock]; rw [Array.getElem?_setIfInBounds, if_neg (fun e => hk e.symm)]⟩
theorem Turned.below {b B : Nat} {w w' : World} (h : Turned b w w') (hB : B ≤ b) : Below B w w' := ⟨h.os, h.tape, h.output, by rw [h.size]; exact Nat.le_refl _, fun k hk => h.block k (by omega)⟩
theorem Turned.cell {b : Nat} {w w' : World} (h : Turned b w w') {p : Addr} (hp : p.block ≠ b) : w'.cell? p = w.cell? p := World.cell?_of_block (w := w) (h.block _ hp)
theorem Turned.frozen {b : Nat} {w w' : World} (h : Turned b w w') {p : Addr} (hp : p.block ≠ b) : w'.frozen? p = w.frozen? p := World.frozen?_of_block (w := w) (h.block _ hp)
theorem Turned.rowIs {b : Nat} {w w' : World} (h : Turned b w w') {c : Nat} {t : TypeId} {n : Nat} {f : Nat → Value} (hr : w.rowIs c t n f) (hc : c ≠ b) : w'.rowIs c t n f := hr.of_block (h.block _ hc)

/-- Block b is a map whose entries are m. -/
structure MapIs (P : Program) (k : TypeId) (w : World) (b : Nat) (m : List (Value × Value)) : Prop where
  blk : ∃ es clock, w.heap[b]? = some (.map es clock) ∧ es.toList.map (fun e => (e.key, e.val)) = m
  keys : ∀ p ∈ m, ∃ l, keyOf P k p.1 = some l
  nd : m.Pairwise (fun p q => p.1 ≠ q.1)

section
variable {P : Program} {k e t : TypeId} {w : World} {b : Nat} {m : List (Value × Value)}

theorem MapIs.lt (h : MapIs P k w b m) : b < w.heap.size := by
  obtain ⟨es, c, hb, _⟩ := h.blk
  exact (Array.getElem?_eq_some_iff.1 hb).1

theorem MapIs.of_block {w' : World} (h : MapIs P k w b m) (hb : w'.heap[b]? = w.heap[b]?) : MapIs P k w' b m := by
  obtain ⟨es, c, hb', hm⟩ := h.blk
  exact ⟨⟨es, c, hb.trans hb', hm⟩, h.keys, h.nd⟩
theorem MapIs.alloc (h : MapIs P k w b m) (o : Obj) : MapIs P k (w.alloc o) b m := h.of_block (Go.Deep.blk_alloc_lt _ _ _ h.lt)
theorem MapIs.setCell (h : MapIs P k w b m) {a : Addr} (ha : b ≠ a.block) (v : Value) : MapIs P k (w.setCell a v) b m := h.of_block (Go.Deep.blk_setCell_other _ _ _ _ ha)
theorem MapIs.below {w' : World} {B : Nat} (h : MapIs P k w b m) (hB : Below B w w') (hb : b < B) : MapIs P k w' b m := h.of_block (hB.block b hb)
theorem MapIs.turned {w' : World} {c : Nat} (h : MapIs P k w b m) (ht : Turned c w w') (hb : b ≠ c) : MapIs P k w' b m := h.of_block (ht.block b hb)
theorem MapIs.new (P : Program) (k : TypeId) (w : World) : MapIs P k (w.alloc (.map #[] 0)) w.heap.size [] := ⟨⟨#[], 0, Go.Deep.blk_alloc_new _ _, rfl⟩, by simp, by simp⟩

theorem nd_eq {m : List (Value × Value)} (h : m.Pairwise (fun p q => p.1 ≠ q.1)) {x v v' : Value} (h1 : (x, v) ∈ m) (h2 : (x, v') ∈ m) : v = v' := by
  induction m with
  | nil => simp at h1
  | cons p r ih =>
    obtain ⟨hp, hr⟩ := List.pairwise_cons.1 h
    simp only [List.mem_cons] at h1 h2
    rcases h1 with rfl | h1
    · rcases h2 with e | h2
      · injection e with _ e; exact e.symm
      · exact absurd rfl (hp (x, v') h2)
    · rcases h2 with rfl | h2
      · exact absurd rfl (hp (x, v) h1)
      · exact ih hr h1 h2

theorem MapIs.look_hit (K : Keyed P k) (ht : P.underlying t = some (.map k e)) (h : MapIs P k w b m) {x v : Value} {l : Lit} (hx : keyOf P k x = some l) (hm : (x, v) ∈ m) (ok : Bool) :
    (Instr.lookup t (.map (some b)) x ok).run P w = .ok (if ok then .tuple #[v, .bool true] else v) w := by
  obtain ⟨⟨es, c, hb, rfl⟩, hk, hnd⟩ := h
  rcases K.find w hx es.toList (fun y hy => hk _ (List.mem_map_of_mem hy)) with ⟨_, h2⟩ | ⟨j, e0, h1, h2, h3⟩
  · obtain ⟨y, hy, e⟩ := List.mem_map.1 hm
    injection e with e1 e2
    exact absurd e1 (h2 y hy)
  · have hv : e0.val = v := nd_eq hnd (x := x) (by rw [← h3]; exact List.mem_map_of_mem (f := fun e : MapEntry => (e.key, e.val)) (List.mem_of_getElem? h2)) hm
    subst hv
    simp [Instr.lookup, run_underlying ht, MapKept.run_getObj_map hb, K.check w _ hx, h1, Result.andThen]

theorem MapIs.look_miss (K : Keyed P k) (ht : P.underlying t = some (.map k e)) (h : MapIs P k w b m) {x z : Value} {l : Lit} (hx : keyOf P k x = some l) (hz : (zeroValue e).run P w = .ok z w) (hm : ∀ p ∈ m, p.1 ≠ x) (ok : Bool) :
    (Instr.lookup t (.map (some b)) x ok).run P w = .ok (if ok then .tuple #[z, .bool false] else z) w := by
  obtain ⟨⟨es, c, hb, rfl⟩, hk, hnd⟩ := h
  rcases K.find w hx es.toList (fun y hy => hk _ (List.mem_map_of_mem hy)) with ⟨h1, _⟩ | ⟨j, e0, h1, h2, h3⟩
  · simp [Instr.lookup, run_underlying ht, MapKept.run_getObj_map hb, K.check w _ hx, h1, hz, Result.andThen]
  · exact absurd h3 (hm (e0.key, e0.val) (List.mem_map_of_mem (f := fun e : MapEntry => (e.key, e.val)) (List.mem_of_getElem? h2)))

theorem MapIs.put_new (K : Keyed P k) (ht : P.underlying t = some (.map k e)) (h : MapIs P k w b m) {x : Value} {l : Lit} (hx : keyOf P k x = some l) (hm : ∀ p ∈ m, p.1 ≠ x) (v : Value) :
    ∃ w', (Instr.mapUpdate t (.map (some b)) x v).run P w = .ok () w' ∧ MapIs P k w' b (m ++ [(x, v)]) ∧ Turned b w w' := by
  have hlt := h.lt
  obtain ⟨⟨es, c, hb, rfl⟩, hk, hnd⟩ := h
  rcases K.find w hx es.toList (fun y hy => hk _ (List.mem_map_of_mem hy)) with ⟨h1, h2⟩ | ⟨j, e0, h1, h2, h3⟩
  · refine ⟨setBlock w b (.map (es.push ⟨x, v, c⟩) (c + 1)), ?_, ⟨⟨_, _, by simp only [setBlock]; rw [Array.getElem?_setIfInBounds, if_pos rfl, if_pos hlt], by simp⟩, ?_, ?_⟩, turned_set _ _ _⟩
    · simp [Instr.mapUpdate, run_underlying ht, MapKept.run_getObj_map hb, K.check w false hx, h1, MapKept.run_setObj_map _ hb, Result.andThen, setBlock]
    · intro p hp
      rw [List.mem_append, List.mem_singleton] at hp
      rcases hp with hp | rfl
      · exact hk p hp
      · exact ⟨l, hx⟩
    · rw [List.pairwise_append]
      refine ⟨hnd, by simp, fun p hp q hq => ?_⟩
      rw [List.mem_singleton] at hq
      subst hq
      exact hm p hp
  · exact absurd h3 (hm (e0.key, e0.val) (List.mem_map_of_mem (f := fun e : MapEntry => (e.key, e.val)) (List.mem_of_getElem? h2)))

theorem idx_split {α : Type} {l l1 l2 : List α} {j : Nat} {x : α} (hj : l[j]? = some x) (h : l = l1 ++ x :: l2) (hu : ∀ i, l[i]? = some x → i = j) : j = l1.length := by
  subst h
  exact (hu l1.length (by simp)).symm

/-- The place of a key. -/
theorem place {m m1 m2 : List (Value × Value)} {x v0 : Value} (hnd : m.Pairwise (fun p q => p.1 ≠ q.1)) (hm : m = m1 ++ (x, v0) :: m2) {j : Nat} {p : Value × Value} (hj : m[j]? = some p) (hp : p.1 = x) : j = m1.length := by
  subst hm
  induction m1 generalizing j with
  | nil =>
    cases j with
    | zero => rfl
    | succ j =>
      simp only [List.nil_append, List.getElem?_cons_succ] at hj
      obtain ⟨h1, _⟩ := List.pairwise_cons.1 hnd
      exact absurd hp.symm (h1 p (List.mem_of_getElem? hj))
  | cons q r ih =>
    cases j with
    | zero =>
      simp only [List.cons_append, List.getElem?_cons_zero, Option.some.injEq] at hj
      subst hj
      obtain ⟨h1, _⟩ := List.pairwise_cons.1 hnd
      exact absurd hp (h1 (x, v0) (by simp))
    | succ j =>
      simp only [List.cons_append, List.getElem?_cons_succ] at hj
      obtain ⟨_, h2⟩ := List.pairwise_cons.1 hnd
      rw [List.length_cons, ih h2 hj]

theorem MapIs.put_old (K : Keyed P k) (ht : P.underlying t = some (.map k e)) {m1 m2 : List (Value × Value)} {x v0 : Value} (h : MapIs P k w b (m1 ++ (x, v0) :: m2)) {l : Lit} (hx : keyOf P k x = some l) (v : Value) :
    ∃ w', (Instr.mapUpdate t (.map (some b)) x v).run P w = .ok () w' ∧ MapIs P k w' b (m1 ++ (x, v) :: m2) ∧ Turned b w w' := by
  have hlt := h.lt
  obtain ⟨⟨es, c, hb, hm⟩, hk, hnd⟩ := h
  rcases K.find w hx es.toList (fun y hy => hk _ (hm ▸ List.mem_map_of_mem (f := fun e : MapEntry => (e.key, e.val)) hy)) with ⟨_, h2⟩ | ⟨j, e0, h1, h2, h3⟩
  · have : (x, v0) ∈ es.toList.map (fun e => (e.key, e.val)) := by rw [hm]; simp
    obtain ⟨y, hy, e⟩ := List.mem_map.1 this
    injection e with e1 e2
    exact absurd e1 (h2 y hy)
  · have hj : es[j]? = some e0 := by simpa using h2
    have hpl : j = m1.length := place (p := (e0.key, e0.val)) hnd rfl (by rw [← hm, List.getElem?_map, h2]; rfl) h3
    refine ⟨setBlock w b (.map (es.modify j (fun e' => { e' with key := x, val := v })) c), ?_, ⟨⟨_, _, by simp only [setBlock]; rw [Array.getElem?_setIfInBounds, if_pos rfl, if_pos hlt], ?_⟩, ?_, ?_⟩, turned_set _ _ _⟩
    · simp [Instr.mapUpdate, run_underlying ht, MapKept.run_getObj_map hb, K.check w false hx, h1, hj, h3, K.stays w hx, MapKept.run_setObj_map _ hb, Result.andThen, setBlock]
    · rw [Array.toList_modify, modify_eq_set _ _ _ _ h2, List.map_set, hm, hpl]
      simp
    · intro p hp
      rw [List.mem_append, List.mem_cons] at hp
      rcases hp with hp | rfl | hp
      · exact hk p (by simp [hp])
      · exact ⟨l, hx⟩
      · exact hk p (by simp [hp])
    · rw [List.pairwise_append, List.pairwise_cons] at hnd ⊢
      obtain ⟨h4, ⟨h5, h6⟩, h7⟩ := hnd
      refine ⟨h4, ⟨fun q hq => h5 q hq, h6⟩, fun p hp q hq => ?_⟩
      rw [List.mem_cons] at hq
      rcases hq with rfl | hq
      · exact h7 p hp (x, v0) (by simp)
      · exact h7 p hp q (by simp [hq])

theorem MapIs.del_hit {ty : TypeId} (K : Keyed P k) (ht : P.underlying t = some (.map k e)) {m1 m2 : List (Value × Value)} {x v0 : Value} (h : MapIs P k w b (m1 ++ (x, v0) :: m2)) {l : Lit} (hx : keyOf P k x = some l) (at2 : TypeId) :
    ∃ w', (Builtin.delete_ #[t, at2] ty #[.map (some b), x]).run P w = .ok (.tuple #[]) w' ∧ MapIs P k w' b (m1 ++ m2) ∧ Turned b w w' := by
  have hlt := h.lt
  obtain ⟨⟨es, c, hb, hm⟩, hk, hnd⟩ := h
  rcases K.find w hx es.toList (fun y hy => hk _ (hm ▸ List.mem_map_of_mem (f := fun e : MapEntry => (e.key, e.val)) hy)) with ⟨_, h2⟩ | ⟨j, e0, h1, h2, h3⟩
  · have : (x, v0) ∈ es.toList.map (fun e => (e.key, e.val)) := by rw [hm]; simp
    obtain ⟨y, hy, e⟩ := List.mem_map.1 this
    injection e with e1 e2
    exact absurd e1 (h2 y hy)
  · have hpl : j = m1.length := place (p := (e0.key, e0.val)) hnd rfl (by rw [← hm, List.getElem?_map, h2]; rfl) h3
    have hjl : j < es.toList.length := (List.getElem?_eq_some_iff.1 h2).1
    refine ⟨setBlock w b (.map (es.eraseIdxIfInBounds j) c), ?_, ⟨⟨_, _, by simp only [setBlock]; rw [Array.getElem?_setIfInBounds, if_pos rfl, if_pos hlt], ?_⟩, ?_, ?_⟩, turned_set _ _ _⟩
    · simp [Builtin.delete_, run_underlying ht, MapKept.run_getObj_map hb, K.check w _ hx, h1, MapKept.run_setObj_map _ hb, Result.andThen, setBlock]
    · have hj' : j < es.size := by simpa using hjl
      rw [Array.eraseIdxIfInBounds, dif_pos hj', Array.toList_eraseIdx, Go.ChangeMaps.map_eraseIdx, hm, hpl, List.eraseIdx_append_of_length_le (Nat.le_refl _), Nat.sub_self]
      rfl
    · intro p hp
      rw [List.mem_append] at hp
      rcases hp with hp | hp
      · exact hk p (by simp [hp])
      · exact hk p (by simp [hp])
    · rw [List.pairwise_append, List.pairwise_cons] at hnd
      obtain ⟨h4, ⟨_, h6⟩, h7⟩ := hnd
      rw [List.pairwise_append]
      exact ⟨h4, h6, fun p hp q hq => h7 p hp q (by simp [hq])⟩

theorem MapIs.len (ht : P.underlying t = some (.map k e)) (h : MapIs P k w b m) (ty : TypeId) : (Builtin.len_ #[t] ty #[.map (some b)]).run P w = .ok (.int .i64 (m.length : Int)) w := by
  obtain ⟨⟨es, c, hb, rfl⟩, _, _⟩ := h
  simp [Builtin.len_, run_underlying ht, MapKept.run_getObj_map hb, goInt, Result.andThen]
end

/-! ### At the operations of a plain region -/
section
variable {P : Program} {ops : Array Oper} {rest : List Oper} {o : Oper} {a : Act} {Q : Exit → Act → World → Prop} {w : World}

theorem wpList_look_hit (hg : o.guard = none) (mo x : Operand) (t : TypeId) (ok : Bool) (hop : o.op = Op.lookup t mo x ok) (k e : TypeId) (K : Keyed P k) (ht : P.underlying t = some (.map k e)) (b : Nat) (m : List (Value × Value))
    (hmo : a.eval mo = .map (some b)) (h : MapIs P k w b m) (key v : Value) (l : Lit) (hx : a.eval x = key) (hk : keyOf P k key = some l) (hm : (key, v) ∈ m)
    (hK : wpList P ops Q rest (a.put o.dst (if ok then .tuple #[v, .bool true] else v)) w) : wpList P ops Q (o :: rest) a w := by
  refine wpList_plain hg fun K' hK' => ?_
  have hrun := h.look_hit K ht hk hm ok
  unfold Oper.wp
  simp [execOp, hop, hmo, hx, hrun, Result.andThen]
  exact hK' _ _ hK
theorem wpList_look_miss (hg : o.guard = none) (mo x : Operand) (t : TypeId) (ok : Bool) (hop : o.op = Op.lookup t mo x ok) (k e : TypeId) (K : Keyed P k) (ht : P.underlying t = some (.map k e)) (b : Nat) (m : List (Value × Value))
    (hmo : a.eval mo = .map (some b)) (h : MapIs P k w b m) (key z : Value) (l : Lit) (hx : a.eval x = key) (hk : keyOf P k key = some l) (hz : (zeroValue e).run P w = .ok z w) (hm : ∀ p ∈ m, p.1 ≠ key)
    (hK : wpList P ops Q rest (a.put o.dst (if ok then .tuple #[z, .bool false] else z)) w) : wpList P ops Q (o :: rest) a w := by
  refine wpList_plain hg fun K' hK' => ?_
  have hrun := h.look_miss K ht hk hz hm ok
  unfold Oper.wp
  simp [execOp, hop, hmo, hx, hrun, Result.andThen]
  exact hK' _ _ hK
theorem wpList_put_new (hg : o.guard = none) (mo x v : Operand) (t : TypeId) (hop : o.op = Op.mapUpdate t mo x v) (k e : TypeId) (K : Keyed P k) (ht : P.underlying t = some (.map k e)) (b : Nat) (m : List (Value × Value))
    (hmo : a.eval mo = .map (some b)) (h : MapIs P k w b m) (key val : Value) (l : Lit) (hx : a.eval x = key) (hv : a.eval v = val) (hk : keyOf P k key = some l) (hm : ∀ p ∈ m, p.1 ≠ key)
    (hK : ∀ w', MapIs P k w' b (m ++ [(key, val)]) → Turned b w w' → wpList P ops Q rest (a.put o.dst undef) w') : wpList P ops Q (o :: rest) a w := by
  refine wpList_plain hg fun K' hK' => ?_
  obtain ⟨w', hrun, h1, h2⟩ := h.put_new K ht hk hm val
  unfold Oper.wp
  simp [execOp, hop, hmo, hx, hv, hrun, Result.andThen]
  exact hK' _ _ (hK w' h1 h2)
theorem wpList_put_old (hg : o.guard = none) (mo x v : Operand) (t : TypeId) (hop : o.op = Op.mapUpdate t mo x v) (k e : TypeId) (K : Keyed P k) (ht : P.underlying t = some (.map k e)) (b : Nat) (m1 m2 : List (Value × Value)) (key v0 : Value)
    (hmo : a.eval mo = .map (some b)) (h : MapIs P k w b (m1 ++ (key, v0) :: m2)) (val : Value) (l : Lit) (hx : a.eval x = key) (hv : a.eval v = val) (hk : keyOf P k key = some l)
    (hK : ∀ w', MapIs P k w' b (m1 ++ (key, val) :: m2) → Turned b w w' → wpList P ops Q rest (a.put o.dst undef) w') : wpList P ops Q (o :: rest) a w := by
  refine wpList_plain hg fun K' hK' => ?_
  obtain ⟨w', hrun, h1, h2⟩ := h.put_old K ht hk val
  unfold Oper.wp
  simp [execOp, hop, hmo, hx, hv, hrun, Result.andThen]
  exact hK' _ _ (hK w' h1 h2)
theorem wpList_del_hit (hg : o.guard = none) (mo x : Operand) (t at2 : TypeId) (hop : o.op = Op.call { callee := Callee.builtin Builtin.delete, args := #[mo, x], argTypes := #[t, at2] }) (k e : TypeId) (K : Keyed P k) (ht : P.underlying t = some (.map k e)) (b : Nat) (m1 m2 : List (Value × Value)) (key v0 : Value)
    (hmo : a.eval mo = .map (some b)) (h : MapIs P k w b (m1 ++ (key, v0) :: m2)) (l : Lit) (hx : a.eval x = key) (hk : keyOf P k key = some l)
    (hK : ∀ w', MapIs P k w' b (m1 ++ m2) → Turned b w w' → wpList P ops Q rest (a.put o.dst (.tuple #[])) w') : wpList P ops Q (o :: rest) a w := by
  refine wpList_plain hg fun K' hK' => ?_
  obtain ⟨w', hrun, h1, h2⟩ := h.del_hit (ty := o.type) K ht hk at2
  unfold Oper.wp
  simp [execOp, hop, resolve, invoke, builtin, hmo, hx, hrun, Result.andThen]
  exact hK' _ _ (hK w' h1 h2)
theorem wpList_len_map (hg : o.guard = none) (mo : Operand) (t : TypeId) (hop : o.op = Op.call { callee := Callee.builtin Builtin.len, args := #[mo], argTypes := #[t] }) (k e : TypeId) (ht : P.underlying t = some (.map k e)) (b : Nat) (m : List (Value × Value))
    (hmo : a.eval mo = .map (some b)) (h : MapIs P k w b m)
    (hK : wpList P ops Q rest (a.put o.dst (.int .i64 (m.length : Int))) w) : wpList P ops Q (o :: rest) a w := by
  refine wpList_plain hg fun K' hK' => ?_
  unfold Oper.wp
  simp [execOp, hop, resolve, invoke, builtin, hmo, h.len ht o.type, Result.andThen]
  exact hK' _ _ hK
end
end Go.Proofs.Qxb6003391a.MapV
