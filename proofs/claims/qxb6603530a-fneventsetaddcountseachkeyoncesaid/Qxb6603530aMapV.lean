import Derived.Maps.OwnSet
import Derived.WalkKit
import Derived.Below
import Derived.Deep.OwnRows
/- A map's block as the list of its entries, in the order in which the keys came. Over any program. -/
namespace Go.Proofs.Qxb6603530a.MapV
open Go.RowKit Go.Maps Go.WideShapes
open Go.ChangeMaps (setBlock modify_eq_set)

/-- w' is w but for block b, which is there still. -/
structure Turned (b : Nat) (w w' : World) : Prop where
  os : w'.os = w.os
  tape : w'.tape = w.tape
  output : w'.output = w.output
  size : w'.heap.size = w.heap.size
  block : ∀ k, k ≠ b → w'.heap[k]? = w.heap[k]?

theorem turned_set (w : World) (b : Nat) (o : Obj) : Turned b w (setBlock w b o) :=
  ⟨rfl, rfl, rfl, by simp [setBlock], fun k hk => by simp only [setBlock]; rw [Array.getElem?_setIfInBounds, if_neg (fun e => hk e.symm)]⟩
theorem Turned.below {b B : Nat} {w w' : World} (h : Turned b w w') (hB : B ≤ b) : Below B w w' := ⟨h.os, h.tape, h.output, by rw [h.size]; exact Nat.le_refl _, fun k hk => h.block k (by omega)⟩
theorem Turned.cell {b : Nat} {w w' : World} (h : Turned b w w') {p : Addr} (hp : p.block ≠ b) : w'.cell? p = w.cell? p := World.cell?_of_block (w := w) (h.block _ hp)
theorem Turned.frozen {b : Nat} {w w' : World} (h : Turned b w w') {p : Addr} (hp : p.block ≠ b) : w'.frozen? p = w.frozen? p := World.frozen?_of_block (w := w) (h.block _ hp)
theorem Turned.rowIs {b : Nat} {w w' : World} (h : Turned b w w') {c : Nat} {t : TypeId} {n : Nat} {f : Nat → Value} (hr : w.rowIs c t n f) (hc : c ≠ b) : w'.rowIs c t n f := hr.of_block (h.block _ hc)

/-- Block b is a map whose entries are m. -/
structure MapIs (P : Program) (k : TypeId) (w : World) (b : Nat) (m : List (Value × Value)) : Prop where
  blk : ∃ es clock, w.heap[b]? = some (.map es clock) ∧ es.toList.map (fun e => (e.key, e.val)) = m
  keys : ∀ p ∈ m, ∃ l, keyOf P k p.1 = some l
  nd : m.Pairwise (fun p q => p.1 ≠ q.1)

section
variable {P : Program} {k e t : TypeId} {w : World} {b : Nat} {m : List (Value × Value)}

theorem MapIs.lt (h : MapIs P k w b m) : b < w.heap.size := by
  obtain ⟨es, c, hb, _⟩ := h.blk
  exact (Array.getElem?_eq_some_iff.1 hb).1

theorem MapIs.of_block {w' : World} (h : MapIs P k w b m) (hb : w'.heap[b]? = w.heap[b]?) : MapIs P k w' b m := by
  obtain ⟨es, c, hb', hm⟩ := h.blk
  exact ⟨⟨es, c, hb.trans hb', hm⟩, h.keys, h.nd⟩
theorem MapIs.alloc (h : MapIs P k w b m) (o : Obj) : MapIs P k (w.alloc o) b m := h.of_block (Go.Deep.blk_alloc_lt _ _ _ h.lt)
theorem MapIs.setCell (h : MapIs P k w b m) {a : Addr} (ha : b ≠ a.block) (v : Value) : MapIs P k (w.setCell a v) b m := h.of_block (Go.Deep.blk_setCell_other _ _ _ _ ha)
theorem MapIs.below {w' : World} {B : Nat} (h : MapIs P k w b m) (hB : Below B w w') (hb : b < B) : MapIs P k w' b m := h.of_block (hB.block b hb)
theorem MapIs.turned {w' : World} {c : Nat} (h : MapIs P k w b m) (ht : Turned c w w') (hb : b ≠ c) : MapIs P k w' b m := h.of_block (ht.block b hb)
theorem MapIs.new (P : Program) (k : TypeId) (w : World) : MapIs P k (w.alloc (.map #[] 0)) w.heap.size [] := ⟨⟨#[], 0, Go.Deep.blk_alloc_new _ _, rfl⟩, by simp, by simp⟩

theorem nd_eq {m : List (Value × Value)} (h : m.Pairwise (fun p q => p.1 ≠ q.1)) {x v v' : Value} (h1 : (x, v) ∈ m) (h2 : (x, v') ∈ m) : v = v' := by
  induction m with
  | nil => simp at h1
  | cons p r ih =>
    obtain ⟨hp, hr⟩ := List.pairwise_cons.1 h
    simp only [List.mem_cons] at h1 h2
    rcases h1 with rfl | h1
    · rcases h2 with e | h2
      · injection e with _ e; exact e.symm
      · exact absurd rfl (hp (x, v') h2)
    · rcases h2 with rfl | h2
      · exact absurd rfl (hp (x, v) h1)
      · exact ih hr h1 h2

theorem MapIs.look_hit (K : Keyed P k) (ht : P.underlying t = some (.map k e)) (h : MapIs P k w b m) {x v : Value} {l : Lit} (hx : keyOf P k x = some l) (hm : (x, v) ∈ m) (ok : Bool) :
    (Instr.lookup t (.map (some b)) x ok).run P w = .ok (if ok then .tuple #[v, .bool true] else v) w := by
  obtain ⟨⟨es, c, hb, rfl⟩, hk, hnd⟩ := h
  rcases K.find w hx es.toList (fun y hy => hk _ (List.mem_map_of_mem hy)) with ⟨_, h2⟩ | ⟨j, e0, h1, h2, h3⟩
  · obtain ⟨y, hy, e⟩ := List.mem_map.1 hm
    injection e with e1 e2
    exact absurd e1 (h2 y hy)
  · have hv : e0.val = v := nd_eq hnd (x := x) (by rw [← h3]; exact List.mem_map_of_mem (f := fun e : MapEntry => (e.key, e.val)) (List.mem_of_getElem? h2)) hm
    subst hv
    simp [Instr.lookup, run_underlying ht, MapKept.run_getObj_map hb, K.check w _ hx, h1, Result.andThen]

theorem MapIs.look_miss (K : Keyed P k) (ht : P.underlying t = some (.map k e)) (h : MapIs P k w b m) {x z : Value} {l : Lit} (hx : keyOf P k x = some l) (hz : (zeroValue e).run P w = .ok z w) (hm : ∀ p ∈ m, p.1 ≠ x) (ok : Bool) :
    (Instr.lookup t (.map (some b)) x ok).run P w = .ok (if ok then .tuple #[z, .bool false] else z) w := by
  obtain ⟨⟨es, c, hb, rfl⟩, hk, hnd⟩ := h
  rcases K.find w hx es.toList (fun y hy => hk _ (List.mem_map_of_mem hy)) with ⟨h1, _⟩ | ⟨j, e0, h1, h2, h3⟩
  · simp [Instr.lookup, run_underlying ht, MapKept.run_getObj_map hb, K.check w _ hx, h1, hz, Result.andThen]
  · exact absurd h3 (hm (e0.key, e0.val) (List.mem_map_of_mem (f := fun e : MapEntry => (e.key, e.val)) (List.mem_of_getElem? h2)))

theorem MapIs.put_new (K : Keyed P k) (ht : P.underlying t = some (.map k e)) (h : MapIs P k w b m) {x : Value} {l : Lit} (hx : keyOf P k x = some l) (hm : ∀ p ∈ m, p.1 ≠ x) (v : Value) :
    ∃ w', (Instr.mapUpdate t (.map (some b)) x v).run P w = .ok () w' ∧ MapIs P k w' b (m ++ [(x, v)]) ∧ Turned b w w' := by
  have hlt := h.lt
  obtain ⟨⟨es, c, hb, rfl⟩, hk, hnd⟩ := h
  rcases K.find w hx es.toList (fun y hy => hk _ (List.mem_map_of_mem hy)) with ⟨h1, h2⟩ | ⟨j, e0, h1, h2, h3⟩
  · refine ⟨setBlock w b (.map (es.push ⟨x, v, c⟩) (c + 1)), ?_, ⟨⟨_, _, by simp only [setBlock]; rw [Array.getElem?_setIfInBounds, if_pos rfl, if_pos hlt], by simp⟩, ?_, ?_⟩, turned_set _ _ _⟩
    · simp [Instr.mapUpdate, run_underlying ht, MapKept.run_getObj_map hb, K.check w false hx, h1, MapKept.run_setObj_map _ hb, Result.andThen, setBlock]
    · intro p hp
      rw [List.mem_append, List.mem_singleton] at hp
      rcases hp with hp | rfl
      · exact hk p hp
      · exact ⟨l, hx⟩
    · rw [List.pairwise_append]
      refine ⟨hnd, by simp, fun p hp q hq => ?_⟩
      rw [List.mem_singleton] at hq
      subst hq
      exact hm p hp
  · exact absurd h3 (hm (e0.key, e0.val) (List.mem_map_of_mem (f := fun e : MapEntry => (e.key, e.val)) (List.mem_of_getElem? h2)))

theorem idx_split {α : Type} {l l1 l2 : List α} {j : Nat} {x : α} (hj : l[j]? = some x) (h : l = l1 ++ x :: l2) (hu : ∀ i, l[i]? = some x → i = j) : j = l1.length := by
  subst h
  exact (hu l1.length (by simp)).symm

/-- The place of a key. -/
theorem place {m m1 m2 : List (Value × Value)} {x v0 : Value} (hnd : m.Pairwise (fun p q => p.1 ≠ q.1)) (hm : m = m1 ++ (x, v0) :: m2) {j : Nat} {p : Value × Value} (hj : m[j]? = some p) (hp : p.1 = x) : j = m1.length := by
  subst hm
  induction m1 generalizing j with
  | nil =>
    cases j with
    | zero => rfl
    | succ j =>
      simp only [List.nil_append, List.getElem?_cons_succ] at hj
      obtain ⟨h1, _⟩ := List.pairwise_cons.1 hnd
      exact absurd hp.symm (h1 p (List.mem_of_getElem? hj))
  | cons q r ih =>
    cases j with
    | zero =>
      simp only [List.cons_append, List.getElem?_cons_zero, Option.some.injEq] at hj
      subst hj
      obtain ⟨h1, _⟩ := List.pairwise_cons.1 hnd
      exact absurd hp (h1 (x, v0) (by simp))
    | succ j =>
      simp only [List.cons_append, List.getElem?_cons_succ] at hj
      obtain ⟨_, h2⟩ := List.pairwise_cons.1 hnd
      rw [List.length_cons, ih h2 hj]

theorem MapIs.put_old (K : Keyed P k) (ht : P.underlying t = some (.map k e)) {m1 m2 : List (Value × Value)} {x v0 : Value} (h : MapIs P k w b (m1 ++ (x, v0) :: m2)) {l : Lit} (hx : keyOf P k x = some l) (v : Value) :
    ∃ w', (Instr.mapUpdate t (.map (some b)) x v).run P w = .ok () w' ∧ MapIs P k w' b (m1 ++ (x, v) :: m2) ∧ Turned b w w' := by
  have hlt := h.lt
  obtain ⟨⟨es, c, hb, hm⟩, hk, hnd⟩ := h
  rcases K.find w hx es.toList (fun y hy => hk _ (hm ▸ List.mem_map_of_mem (f := fun e : MapEntry => (e.key, e.val)) hy)) with ⟨_, h2⟩ | ⟨j, e0, h1, h2, h3⟩
  · have : (x, v0) ∈ es.toList.map (fun e => (e.key, e.val)) := by rw [hm]; simp
    obtain ⟨y, hy, e⟩ := List.mem_map.1 this
    injection e with e1 e2
    exact absurd e1 (h2 y hy)
  · have hj : es[j]? = some e0 := by simpa using h2
    have hpl : j = m1.length := place (p := (e0.key, e0.val)) hnd rfl (by rw [← hm, List.getElem?_map, h2]; rfl) h3
    refine ⟨setBlock w b (.map (es.modify j (fun e' => { e' with key := x, val := v })) c), ?_, ⟨⟨_, _, by simp only [setBlock]; rw [Array.getElem?_setIfInBounds, if_pos rfl, if_pos hlt], ?_⟩, ?_, ?_⟩, turned_set _ _ _⟩
    · simp [Instr.mapUpdate, run_underlying ht, MapKept.run_getObj_map hb, K.check w false hx, h1, hj, h3, K.stays w hx, MapKept.run_setObj_map _ hb, Result.andThen, setBlock]
    · rw [Array.toList_modify, modify_eq_set _ _ _ _ h2, List.map_set, hm, hpl]
      simp
    · intro p hp
      rw [List.mem_append, List.mem_cons] at hp
      rcases hp with hp | rfl | hp
      · exact hk p (by simp [hp])
      · exact ⟨l, hx⟩
      · exact hk p (by simp [hp])
    · rw [List.pairwise_append, List.pairwise_cons] at hnd ⊢
      obtain ⟨h4, ⟨h5, h6⟩, h7⟩ := hnd
      refine ⟨h4, ⟨fun q hq => h5 q hq, h6⟩, fun p hp q hq => ?_⟩
      rw [List.mem_cons] at hq
      rcases hq with rfl | hq
      · exact h7 p hp (x, v0) (by simp)
      · exact h7 p hp q (by simp [hq])

theorem MapIs.del_hit {ty : TypeId} (K : Keyed P k) (ht : P.underlying t = some (.map k e)) {m1 m2 : List (Value × Value)} {x v0 : Value} (h : MapIs P k w b (m1 ++ (x, v0) :: m2)) {l : Lit} (hx : keyOf P k x = some l) (at2 : TypeId) :
    ∃ w', (Builtin.delete_ #[t, at2] ty #[.map (some b), x]).run P w = .ok (.tuple #[]) w' ∧ MapIs P k w' b (m1 ++ m2) ∧ Turned b w w' := by
  have hlt := h.lt
  obtain ⟨⟨es, c, hb, hm⟩, hk, hnd⟩ := h
  rcases K.find w hx es.toList (fun y hy => hk _ (hm ▸ List.mem_map_of_mem (f := fun e : MapEntry => (e.key, e.val)) hy)) with ⟨_, h2⟩ | ⟨j, e0, h1, h2, h3⟩
  · have : (x, v0) ∈ es.toList.map (fun e => (e.key, e.val)) := by rw [hm]; simp
    obtain ⟨y, hy, e⟩ := List.mem_map.1 this
    injection e with e1 e2
    exact absurd e1 (h2 y hy)
  · have hpl : j = m1.length := place (p := (e0.key, e0.val)) hnd rfl (by rw [← hm, List.getElem?_map, h2]; rfl) h3
    have hjl : j < es.toList.length := (List.getElem?_eq_some_iff.1 h2).1
    refine ⟨setBlock w b (.map (es.eraseIdxIfInBounds j) c), ?_, ⟨⟨_, _, by simp only [setBlock]; rw [Array.getElem?_setIfInBounds, if_pos rfl, if_pos hlt], ?_⟩, ?_, ?_⟩, turned_set _ _ _⟩
    · simp [Builtin.delete_, run_underlying ht, MapKept.run_getObj_map hb, K.check w _ hx, h1, MapKept.run_setObj_map _ hb, Result.andThen, setBlock]
    · have hj' : j < es.size := by simpa using hjl
      rw [Array.eraseIdxIfInBounds, dif_pos hj', Array.toList_eraseIdx, Go.ChangeMaps.map_eraseIdx, hm, hpl, List.eraseIdx_append_of_length_le (Nat.le_refl _), Nat.sub_self]
      rfl
    · intro p hp
      rw [List.mem_append] at hp
      rcases hp with hp | hp
      · exact hk p (by simp [hp])
      · exact hk p (by simp [hp])
    · rw [List.pairwise_append, List.pairwise_cons] at hnd
      obtain ⟨h4, ⟨_, h6⟩, h7⟩ := hnd
      rw [List.pairwise_append]
      exact ⟨h4, h6, fun p hp q hq => h7 p hp q (by simp [hq])⟩

theorem MapIs.len (ht : P.underlying t = some (.map k e)) (h : MapIs P k w b m) (ty : TypeId) : (Builtin.len_ #[t] ty #[.map (some b)]).run P w = .ok (.int .i64 (m.length : Int)) w := by
  obtain ⟨⟨es, c, hb, rfl⟩, _, _⟩ := h
  simp [Builtin.len_, run_underlying ht, MapKept.run_getObj_map hb, goInt, Result.andThen]
end


/-! ### A map as a function -/
open Classical in
noncomputable def upd (f : Value → Option Value) (x : Value) (o : Option Value) : Value → Option Value := fun y => if y = x then o else f y
theorem upd_same (f : Value → Option Value) (x : Value) (o : Option Value) : upd f x o x = o := by simp [upd]
theorem upd_other (f : Value → Option Value) {x y : Value} (o : Option Value) (h : y ≠ x) : upd f x o y = f y := by simp [upd, h]

/-- The map at b answers f, and holds n keys. -/
def MapF (P : Program) (k : TypeId) (w : World) (b : Nat) (f : Value → Option Value) (n : Nat) : Prop :=
  ∃ m, MapIs P k w b m ∧ m.length = n ∧ ∀ x v, (x, v) ∈ m ↔ f x = some v

section
variable {P : Program} {k e t : TypeId} {w : World} {b n : Nat} {f : Value → Option Value}

theorem MapF.lt (h : MapF P k w b f n) : b < w.heap.size := by obtain ⟨m, hm, _⟩ := h; exact hm.lt
theorem MapF.of_block {w' : World} (h : MapF P k w b f n) (hb : w'.heap[b]? = w.heap[b]?) : MapF P k w' b f n := by obtain ⟨m, hm, r⟩ := h; exact ⟨m, hm.of_block hb, r⟩
theorem MapF.new (P : Program) (k : TypeId) (w : World) : MapF P k (w.alloc (.map #[] 0)) w.heap.size (fun _ => none) 0 := ⟨[], MapIs.new P k w, rfl, by simp⟩
theorem MapF.notCells (h : MapF P k w b f n) {c : Array Value} {t : TypeId} {fr : Nat × Nat} (hc : w.heap[b]? = some (.cells c t fr)) : False := by
  obtain ⟨m, ⟨⟨es, cl, hb, _⟩, _, _⟩, _⟩ := h
  rw [hb] at hc; cases hc

/-- What a lookup hands back. -/
def got (ok : Bool) (z : Value) : Option Value → Value
  | some v => if ok then .tuple #[v, .bool true] else v
  | none => if ok then .tuple #[z, .bool false] else z

theorem MapF.look (K : Keyed P k) (ht : P.underlying t = some (.map k e)) (h : MapF P k w b f n) {x z : Value} {l : Lit} (hx : keyOf P k x = some l) (hz : (zeroValue e).run P w = .ok z w) (ok : Bool) :
    (Instr.lookup t (.map (some b)) x ok).run P w = .ok (got ok z (f x)) w := by
  obtain ⟨m, hm, _, hf⟩ := h
  cases hfx : f x with
  | some v => exact hm.look_hit K ht hx ((hf x v).2 hfx) ok
  | none => exact hm.look_miss K ht hx hz (fun p hp e => by
      have := (hf p.1 p.2).1 hp
      rw [e, hfx] at this; cases this) ok

theorem MapF.put_new (K : Keyed P k) (ht : P.underlying t = some (.map k e)) (h : MapF P k w b f n) {x : Value} {l : Lit} (hx : keyOf P k x = some l) (hn : f x = none) (v : Value) :
    ∃ w', (Instr.mapUpdate t (.map (some b)) x v).run P w = .ok () w' ∧ MapF P k w' b (upd f x (some v)) (n + 1) ∧ Turned b w w' := by
  obtain ⟨m, hm, hl, hf⟩ := h
  obtain ⟨w', hr, h1, h2⟩ := hm.put_new K ht hx (fun p hp e => by
      have := (hf p.1 p.2).1 hp
      rw [e, hn] at this; cases this) v
  refine ⟨w', hr, ⟨_, h1, by simp [hl], fun y u => ?_⟩, h2⟩
  rw [List.mem_append, List.mem_singleton, hf]
  by_cases e : y = x
  · subst e
    rw [upd_same, hn]
    constructor
    · rintro (h | h)
      · cases h
      · injection h with _ h; rw [h]
    · intro h; injection h with h; right; rw [h]
  · rw [upd_other _ _ e]
    constructor
    · rintro (h | h)
      · exact h
      · injection h with h _; exact absurd h e
    · exact .inl

theorem split_of_mem {m : List (Value × Value)} {p : Value × Value} (h : p ∈ m) : ∃ m1 m2, m = m1 ++ p :: m2 := List.append_of_mem h

theorem nd_other {m1 m2 : List (Value × Value)} {x v0 : Value} (h : (m1 ++ (x, v0) :: m2).Pairwise (fun p q => p.1 ≠ q.1)) : (∀ p ∈ m1, p.1 ≠ x) ∧ ∀ p ∈ m2, p.1 ≠ x := by
  rw [List.pairwise_append, List.pairwise_cons] at h
  exact ⟨fun p hp => h.2.2 p hp (x, v0) (by simp), fun p hp e => h.2.1.1 p hp e.symm⟩

theorem MapF.put_old (K : Keyed P k) (ht : P.underlying t = some (.map k e)) (h : MapF P k w b f n) {x v0 : Value} {l : Lit} (hx : keyOf P k x = some l) (hn : f x = some v0) (v : Value) :
    ∃ w', (Instr.mapUpdate t (.map (some b)) x v).run P w = .ok () w' ∧ MapF P k w' b (upd f x (some v)) n ∧ Turned b w w' := by
  obtain ⟨m, hm, hl, hf⟩ := h
  obtain ⟨m1, m2, rfl⟩ := split_of_mem ((hf x v0).2 hn)
  obtain ⟨n1, n2⟩ := nd_other hm.nd
  obtain ⟨w', hr, h1, h2⟩ := hm.put_old K ht hx v
  refine ⟨w', hr, ⟨_, h1, by simpa using hl, fun y u => ?_⟩, h2⟩
  by_cases e : y = x
  · subst e
    rw [upd_same]
    constructor
    · intro h
      rw [List.mem_append, List.mem_cons] at h
      rcases h with h | h | h
      · exact absurd rfl (n1 _ h)
      · injection h with _ h; rw [h]
      · exact absurd rfl (n2 _ h)
    · intro h; injection h with h; simp [h]
  · rw [upd_other _ _ e, ← hf]
    simp [e]

theorem MapF.del_hit {ty : TypeId} (K : Keyed P k) (ht : P.underlying t = some (.map k e)) (h : MapF P k w b f n) {x v0 : Value} {l : Lit} (hx : keyOf P k x = some l) (hn : f x = some v0) (at2 : TypeId) :
    ∃ w', (Builtin.delete_ #[t, at2] ty #[.map (some b), x]).run P w = .ok (.tuple #[]) w' ∧ MapF P k w' b (upd f x none) (n - 1) ∧ Turned b w w' := by
  obtain ⟨m, hm, hl, hf⟩ := h
  obtain ⟨m1, m2, rfl⟩ := split_of_mem ((hf x v0).2 hn)
  obtain ⟨n1, n2⟩ := nd_other hm.nd
  obtain ⟨w', hr, h1, h2⟩ := hm.del_hit (ty := ty) K ht hx at2
  refine ⟨w', hr, ⟨_, h1, by simp at hl ⊢; omega, fun y u => ?_⟩, h2⟩
  by_cases e : y = x
  · subst e
    rw [upd_same]
    constructor
    · intro h
      rw [List.mem_append] at h
      rcases h with h | h
      · exact absurd rfl (n1 _ h)
      · exact absurd rfl (n2 _ h)
    · intro h; cases h
  · rw [upd_other _ _ e, ← hf]
    simp [e]

theorem MapF.len (ht : P.underlying t = some (.map k e)) (h : MapF P k w b f n) (ty : TypeId) : (Builtin.len_ #[t] ty #[.map (some b)]).run P w = .ok (.int .i64 (n : Int)) w := by
  obtain ⟨m, hm, rfl, _⟩ := h
  exact hm.len ht ty
end

/-- A map variable: nil, or a map's block. -/
def MapO (P : Program) (k : TypeId) (w : World) : Option Nat → (Value → Option Value) → Nat → Prop
  | none, f, n => (∀ x, f x = none) ∧ n = 0
  | some b, f, n => MapF P k w b f n

section
variable {P : Program} {k e t : TypeId} {w : World} {o : Option Nat} {n : Nat} {f : Value → Option Value}
theorem MapO.look (K : Keyed P k) (ht : P.underlying t = some (.map k e)) (h : MapO P k w o f n) {x z : Value} {l : Lit} (hx : keyOf P k x = some l) (hz : (zeroValue e).run P w = .ok z w) (ok : Bool) :
    (Instr.lookup t (.map o) x ok).run P w = .ok (got ok z (f x)) w := by
  cases o with
  | some b => exact MapF.look K ht h hx hz ok
  | none =>
    rw [h.1 x]
    have hf : (Instr.findKey k x []).run P w = .ok none w := by
      rcases K.find w hx [] (by simp) with ⟨h1, _⟩ | ⟨j, e0, _, h2, _⟩
      · exact h1
      · simp at h2
    simp [Instr.lookup, run_underlying ht, K.check w _ hx, hf, hz, Result.andThen, got]
theorem MapO.len (ht : P.underlying t = some (.map k e)) (h : MapO P k w o f n) (ty : TypeId) : (Builtin.len_ #[t] ty #[.map o]).run P w = .ok (.int .i64 (n : Int)) w := by
  cases o with
  | some b => exact MapF.len ht h ty
  | none =>
    rw [h.2]
    simp [Builtin.len_, run_underlying ht, goInt, Result.andThen]
theorem MapO.of_block {w' : World} (h : MapO P k w o f n) (hb : ∀ b, o = some b → w'.heap[b]? = w.heap[b]?) : MapO P k w' o f n := by
  cases o with
  | some b => exact MapF.of_block h (hb b rfl)
  | none => exact h
theorem MapO.lt (h : MapO P k w o f n) {b : Nat} (hb : o = some b) : b < w.heap.size := by subst hb; exact MapF.lt h
end

/-! ### At an operation -/
section
variable {P : Program} {ops : Array Oper} {rest : List Oper} {o : Oper} {a : Act} {Q : Exit → Act → World → Prop} {w : World} {K' : Act → World → Prop} {E : Prop}

theorem wp_look (mo x : Operand) (t : TypeId) (ok : Bool) (hop : o.op = Op.lookup t mo x ok) (k e : TypeId) (K : Keyed P k) (ht : P.underlying t = some (.map k e)) (b : Option Nat) (f : Value → Option Value) (n : Nat)
    (hmo : a.eval mo = .map b) (h : MapO P k w b f n) (key z r : Value) (l : Lit) (hx : a.eval x = key) (hk : keyOf P k key = some l) (hz : (zeroValue e).run P w = .ok z w) (hr : got ok z (f key) = r)
    (hK : K' (a.put o.dst r) w) : o.wp P a w K' Q := by
  have hrun := h.look K ht hk hz ok
  unfold Oper.wp
  simp [execOp, hop, hmo, hx, hrun, hr, Result.andThen]
  exact hK
theorem wp_put_new (mo x v : Operand) (t : TypeId) (hop : o.op = Op.mapUpdate t mo x v) (k e : TypeId) (K : Keyed P k) (ht : P.underlying t = some (.map k e)) (b : Nat) (f : Value → Option Value) (n : Nat)
    (hmo : a.eval mo = .map (some b)) (h : MapF P k w b f n) (key val : Value) (l : Lit) (hx : a.eval x = key) (hv : a.eval v = val) (hk : keyOf P k key = some l) (hn : f key = none)
    (hK : ∀ w', MapF P k w' b (upd f key (some val)) (n + 1) → Turned b w w' → K' (a.put o.dst undef) w') : o.wp P a w K' Q := by
  obtain ⟨w', hrun, h1, h2⟩ := h.put_new K ht hk hn val
  unfold Oper.wp
  simp [execOp, hop, hmo, hx, hv, hrun, Result.andThen]
  exact hK w' h1 h2
theorem wp_put_old (mo x v : Operand) (t : TypeId) (hop : o.op = Op.mapUpdate t mo x v) (k e : TypeId) (K : Keyed P k) (ht : P.underlying t = some (.map k e)) (b : Nat) (f : Value → Option Value) (n : Nat)
    (hmo : a.eval mo = .map (some b)) (h : MapF P k w b f n) (key val v0 : Value) (l : Lit) (hx : a.eval x = key) (hv : a.eval v = val) (hk : keyOf P k key = some l) (hn : f key = some v0)
    (hK : ∀ w', MapF P k w' b (upd f key (some val)) n → Turned b w w' → K' (a.put o.dst undef) w') : o.wp P a w K' Q := by
  obtain ⟨w', hrun, h1, h2⟩ := h.put_old K ht hk hn val
  unfold Oper.wp
  simp [execOp, hop, hmo, hx, hv, hrun, Result.andThen]
  exact hK w' h1 h2
theorem wp_del_hit (mo x : Operand) (t at2 : TypeId) (hop : o.op = Op.call { callee := Callee.builtin Builtin.delete, args := #[mo, x], argTypes := #[t, at2] }) (k e : TypeId) (K : Keyed P k) (ht : P.underlying t = some (.map k e)) (b : Nat) (f : Value → Option Value) (n : Nat)
    (hmo : a.eval mo = .map (some b)) (h : MapF P k w b f n) (key v0 : Value) (l : Lit) (hx : a.eval x = key) (hk : keyOf P k key = some l) (hn : f key = some v0)
    (hK : ∀ w', MapF P k w' b (upd f key none) (n - 1) → Turned b w w' → K' (a.put o.dst (.tuple #[])) w') : o.wp P a w K' Q := by
  obtain ⟨w', hrun, h1, h2⟩ := h.del_hit (ty := o.type) K ht hk hn at2
  unfold Oper.wp
  simp [execOp, hop, resolve, invoke, builtin, hmo, hx, hrun, Result.andThen]
  exact hK w' h1 h2
theorem wp_len_map (mo : Operand) (t : TypeId) (hop : o.op = Op.call { callee := Callee.builtin Builtin.len, args := #[mo], argTypes := #[t] }) (k e : TypeId) (ht : P.underlying t = some (.map k e)) (b : Option Nat) (f : Value → Option Value) (n : Nat)
    (hmo : a.eval mo = .map b) (h : MapO P k w b f n)
    (hK : K' (a.put o.dst (.int .i64 (n : Int))) w) : o.wp P a w K' Q := by
  unfold Oper.wp
  simp [execOp, hop, resolve, invoke, builtin, hmo, h.len ht o.type, Result.andThen]
  exact hK

theorem wanted_plain (hg : o.guard = none) : Region.wanted o (yielded ops a.tmps) = true := by simp [Region.wanted, hg]
theorem wpList_look (hg : o.guard = none) (mo x : Operand) (t : TypeId) (ok : Bool) (hop : o.op = Op.lookup t mo x ok) (k e : TypeId) (K : Keyed P k) (ht : P.underlying t = some (.map k e)) (b : Option Nat) (f : Value → Option Value) (n : Nat)
    (hmo : a.eval mo = .map b) (h : MapO P k w b f n) (key z r : Value) (l : Lit) (hx : a.eval x = key) (hk : keyOf P k key = some l) (hz : (zeroValue e).run P w = .ok z w) (hr : got ok z (f key) = r)
    (hK : wpList P ops Q rest (a.put o.dst r) w) : wpList P ops Q (o :: rest) a w :=
  wpList_plain hg fun _ hK' => wp_look mo x t ok hop k e K ht b f n hmo h key z r l hx hk hz hr (hK' _ _ hK)
theorem step_look (hg : o.guard = none) (mo x : Operand) (t : TypeId) (ok : Bool) (hop : o.op = Op.lookup t mo x ok) (k e : TypeId) (K : Keyed P k) (ht : P.underlying t = some (.map k e)) (b : Option Nat) (f : Value → Option Value) (n : Nat)
    (hmo : a.eval mo = .map b) (h : MapO P k w b f n) (key z r : Value) (l : Lit) (hx : a.eval x = key) (hk : keyOf P k key = some l) (hz : (zeroValue e).run P w = .ok z w) (hr : got ok z (f key) = r)
    (hK : K' (a.put o.dst r) w) : if Region.wanted o (yielded ops a.tmps) = true then Oper.wp P o a w K' Q else E := by
  rw [if_pos (wanted_plain hg)]
  exact wp_look mo x t ok hop k e K ht b f n hmo h key z r l hx hk hz hr hK
theorem wpList_put_new (hg : o.guard = none) (mo x v : Operand) (t : TypeId) (hop : o.op = Op.mapUpdate t mo x v) (k e : TypeId) (K : Keyed P k) (ht : P.underlying t = some (.map k e)) (b : Nat) (f : Value → Option Value) (n : Nat)
    (hmo : a.eval mo = .map (some b)) (h : MapF P k w b f n) (key val : Value) (l : Lit) (hx : a.eval x = key) (hv : a.eval v = val) (hk : keyOf P k key = some l) (hn : f key = none)
    (hK : ∀ w', MapF P k w' b (upd f key (some val)) (n + 1) → Turned b w w' → wpList P ops Q rest (a.put o.dst undef) w') : wpList P ops Q (o :: rest) a w :=
  wpList_plain hg fun _ hK' => wp_put_new mo x v t hop k e K ht b f n hmo h key val l hx hv hk hn (fun w' h1 h2 => hK' _ _ (hK w' h1 h2))
theorem step_put_new (hg : o.guard = none) (mo x v : Operand) (t : TypeId) (hop : o.op = Op.mapUpdate t mo x v) (k e : TypeId) (K : Keyed P k) (ht : P.underlying t = some (.map k e)) (b : Nat) (f : Value → Option Value) (n : Nat)
    (hmo : a.eval mo = .map (some b)) (h : MapF P k w b f n) (key val : Value) (l : Lit) (hx : a.eval x = key) (hv : a.eval v = val) (hk : keyOf P k key = some l) (hn : f key = none)
    (hK : ∀ w', MapF P k w' b (upd f key (some val)) (n + 1) → Turned b w w' → K' (a.put o.dst undef) w') : if Region.wanted o (yielded ops a.tmps) = true then Oper.wp P o a w K' Q else E := by
  rw [if_pos (wanted_plain hg)]
  exact wp_put_new mo x v t hop k e K ht b f n hmo h key val l hx hv hk hn hK
theorem wpList_put_old (hg : o.guard = none) (mo x v : Operand) (t : TypeId) (hop : o.op = Op.mapUpdate t mo x v) (k e : TypeId) (K : Keyed P k) (ht : P.underlying t = some (.map k e)) (b : Nat) (f : Value → Option Value) (n : Nat)
    (hmo : a.eval mo = .map (some b)) (h : MapF P k w b f n) (key val v0 : Value) (l : Lit) (hx : a.eval x = key) (hv : a.eval v = val) (hk : keyOf P k key = some l) (hn : f key = some v0)
    (hK : ∀ w', MapF P k w' b (upd f key (some val)) n → Turned b w w' → wpList P ops Q rest (a.put o.dst undef) w') : wpList P ops Q (o :: rest) a w :=
  wpList_plain hg fun _ hK' => wp_put_old mo x v t hop k e K ht b f n hmo h key val v0 l hx hv hk hn (fun w' h1 h2 => hK' _ _ (hK w' h1 h2))
theorem step_put_old (hg : o.guard = none) (mo x v : Operand) (t : TypeId) (hop : o.op = Op.mapUpdate t mo x v) (k e : TypeId) (K : Keyed P k) (ht : P.underlying t = some (.map k e)) (b : Nat) (f : Value → Option Value) (n : Nat)
    (hmo : a.eval mo = .map (some b)) (h : MapF P k w b f n) (key val v0 : Value) (l : Lit) (hx : a.eval x = key) (hv : a.eval v = val) (hk : keyOf P k key = some l) (hn : f key = some v0)
    (hK : ∀ w', MapF P k w' b (upd f key (some val)) n → Turned b w w' → K' (a.put o.dst undef) w') : if Region.wanted o (yielded ops a.tmps) = true then Oper.wp P o a w K' Q else E := by
  rw [if_pos (wanted_plain hg)]
  exact wp_put_old mo x v t hop k e K ht b f n hmo h key val v0 l hx hv hk hn hK
theorem wpList_del_hit (hg : o.guard = none) (mo x : Operand) (t at2 : TypeId) (hop : o.op = Op.call { callee := Callee.builtin Builtin.delete, args := #[mo, x], argTypes := #[t, at2] }) (k e : TypeId) (K : Keyed P k) (ht : P.underlying t = some (.map k e)) (b : Nat) (f : Value → Option Value) (n : Nat)
    (hmo : a.eval mo = .map (some b)) (h : MapF P k w b f n) (key v0 : Value) (l : Lit) (hx : a.eval x = key) (hk : keyOf P k key = some l) (hn : f key = some v0)
    (hK : ∀ w', MapF P k w' b (upd f key none) (n - 1) → Turned b w w' → wpList P ops Q rest (a.put o.dst (.tuple #[])) w') : wpList P ops Q (o :: rest) a w :=
  wpList_plain hg fun _ hK' => wp_del_hit mo x t at2 hop k e K ht b f n hmo h key v0 l hx hk hn (fun w' h1 h2 => hK' _ _ (hK w' h1 h2))
theorem step_del_hit (hg : o.guard = none) (mo x : Operand) (t at2 : TypeId) (hop : o.op = Op.call { callee := Callee.builtin Builtin.delete, args := #[mo, x], argTypes := #[t, at2] }) (k e : TypeId) (K : Keyed P k) (ht : P.underlying t = some (.map k e)) (b : Nat) (f : Value → Option Value) (n : Nat)
    (hmo : a.eval mo = .map (some b)) (h : MapF P k w b f n) (key v0 : Value) (l : Lit) (hx : a.eval x = key) (hk : keyOf P k key = some l) (hn : f key = some v0)
    (hK : ∀ w', MapF P k w' b (upd f key none) (n - 1) → Turned b w w' → K' (a.put o.dst (.tuple #[])) w') : if Region.wanted o (yielded ops a.tmps) = true then Oper.wp P o a w K' Q else E := by
  rw [if_pos (wanted_plain hg)]
  exact wp_del_hit mo x t at2 hop k e K ht b f n hmo h key v0 l hx hk hn hK
theorem wpList_len_map (hg : o.guard = none) (mo : Operand) (t : TypeId) (hop : o.op = Op.call { callee := Callee.builtin Builtin.len, args := #[mo], argTypes := #[t] }) (k e : TypeId) (ht : P.underlying t = some (.map k e)) (b : Option Nat) (f : Value → Option Value) (n : Nat)
    (hmo : a.eval mo = .map b) (h : MapO P k w b f n)
    (hK : wpList P ops Q rest (a.put o.dst (.int .i64 (n : Int))) w) : wpList P ops Q (o :: rest) a w :=
  wpList_plain hg fun _ hK' => wp_len_map mo t hop k e ht b f n hmo h (hK' _ _ hK)
theorem step_len_map (hg : o.guard = none) (mo : Operand) (t : TypeId) (hop : o.op = Op.call { callee := Callee.builtin Builtin.len, args := #[mo], argTypes := #[t] }) (k e : TypeId) (ht : P.underlying t = some (.map k e)) (b : Option Nat) (f : Value → Option Value) (n : Nat)
    (hmo : a.eval mo = .map b) (h : MapO P k w b f n)
    (hK : K' (a.put o.dst (.int .i64 (n : Int))) w) : if Region.wanted o (yielded ops a.tmps) = true then Oper.wp P o a w K' Q else E := by
  rw [if_pos (wanted_plain hg)]
  exact wp_len_map mo t hop k e ht b f n hmo h hK
end
end Go.Proofs.Qxb6603530a.MapV
