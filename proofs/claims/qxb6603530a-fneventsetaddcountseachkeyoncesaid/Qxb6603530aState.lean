import Derived.Test.Qxb6603530aBase
/- What the set holds, as plain facts of blocks: each block that is the set's own bears a tag, so that blocks of different tags are different. -/
namespace Go.Proofs.Qxb6603530a
open Go.ChangeShapes Go.WideShapes Go.ChangeAt Go.RowKit
open MapV

/-! ### What may have turned -/
structure Fr (S : Nat → Prop) (w w' : World) : Prop where
  os : w'.os = w.os
  tape : w'.tape = w.tape
  output : w'.output = w.output
  size : w.heap.size ≤ w'.heap.size
  block : ∀ k, k < w.heap.size → ¬ S k → w'.heap[k]? = w.heap[k]?

namespace Fr
variable {S : Nat → Prop} {w w' w'' : World}
theorem refl (S : Nat → Prop) (w : World) : Fr S w w := ⟨rfl, rfl, rfl, Nat.le_refl _, fun _ _ _ => rfl⟩
theorem trans (h : Fr S w w') (k : Fr S w' w'') : Fr S w w'' :=
  ⟨k.os.trans h.os, k.tape.trans h.tape, k.output.trans h.output, Nat.le_trans h.size k.size, fun i hi hs => (k.block i (Nat.lt_of_lt_of_le hi h.size) hs).trans (h.block i hi hs)⟩
theorem mono {S' : Nat → Prop} (h : Fr S w w') (hS : ∀ k, k < w.heap.size → S k → S' k) : Fr S' w w' := ⟨h.os, h.tape, h.output, h.size, fun k hk hs => h.block k hk (fun e => hs (hS k hk e))⟩
theorem alloc (h : Fr S w w') (o : Obj) : Fr S w (w'.alloc o) := h.trans ⟨rfl, rfl, rfl, by simp, fun k hk _ => Go.Deep.blk_alloc_lt _ _ _ hk⟩
theorem setCell (h : Fr S w w') {a : Addr} (ha : S a.block) (v : Value) : Fr S w (w'.setCell a v) :=
  h.trans ⟨rfl, rfl, rfl, by simp [World.setCell], fun k _ hs => Go.Deep.blk_setCell_other _ _ _ _ (fun e => hs (e ▸ ha))⟩
theorem turned {b : Nat} (h : Fr S w w') (ht : Turned b w' w'') (hb : S b) : Fr S w w'' :=
  h.trans ⟨ht.os, ht.tape, ht.output, by rw [ht.size]; exact Nat.le_refl _, fun k _ hs => ht.block k (fun e => hs (e ▸ hb))⟩
theorem grown {row : Option Nat} (h : Fr S w w') (hg : w'.grownBy w'' row) (hr : ∀ k, row = some k → S k) : Fr S w w'' :=
  h.trans ⟨hg.os, hg.tape, hg.output, hg.size, fun k hk hs => hg.block k hk (fun e => hs (hr k e.symm))⟩
theorem beneath (h : Fr S w w') (hb : Below w'.heap.size w' w'') : Fr S w w'' := h.trans ⟨hb.os, hb.tape, hb.output, hb.size, fun k hk _ => hb.block k hk⟩
theorem drewN (h : Fr S w w') (n : Nat) : Fr S w (w'.drewN n) := ⟨h.os, h.tape, h.output, h.size, h.block⟩
theorem drew (h : Fr S w w') : Fr S w w'.drew := ⟨h.os, h.tape, h.output, h.size, h.block⟩
theorem below {B : Nat} (h : Fr S w w') (hS : ∀ k, k < B → ¬ S k) (hB : B ≤ w.heap.size) : Below B w w' := ⟨h.os, h.tape, h.output, h.size, fun k hk => h.block k (Nat.lt_of_lt_of_le hk hB) (hS k hk)⟩
end Fr

/-! ### Tags -/
inductive Tag where
  | other | lone | few | many | row (s : ByteArray) | set (s : ByteArray)
  | nodes | node (c s : ByteArray) | marks (c s : ByteArray)
  | svcs | svc (s : ByteArray) | deps (s : ByteArray) | samps (s : ByteArray) | execs

def Tag.isKeep : Tag → Prop
  | .lone | .few | .many | .row _ | .set _ => True
  | _ => False
def Tag.isNode : Tag → Prop
  | .nodes | .node _ _ | .marks _ _ => True
  | _ => False
def Tag.isSvc : Tag → Prop
  | .svcs | .svc _ | .deps _ | .samps _ | .execs => True
  | _ => False

/-- τ with block k tagged t. -/
def tagAt (τ : Nat → Tag) (k : Nat) (t : Tag) : Nat → Tag := fun j => if j = k then t else τ j
theorem tagAt_same (τ : Nat → Tag) (k : Nat) (t : Tag) : tagAt τ k t k = t := by simp [tagAt]
theorem tagAt_other (τ : Nat → Tag) {k j : Nat} (t : Tag) (h : j ≠ k) : tagAt τ k t j = τ j := by simp [tagAt, h]

/-- The blocks that may turn: the set's own, those of the tags T, and new ones. -/
def May (T : Tag → Prop) (τ : Nat → Tag) (sB N : Nat) (k : Nat) : Prop := k = sB ∨ T (τ k) ∨ N ≤ k

/-- A step of one of the set's three parts. -/
structure Step (T : Tag → Prop) (sB : Nat) (τ τ' : Nat → Tag) (w w' : World) : Prop where
  tags : ∀ k, k < w.heap.size → τ' k = τ k
  fr : Fr (May T τ sB w.heap.size) w w'

/-! ### The set's own block -/
structure SV where
  ml : Option Nat
  mf : Option Nat
  mm : Option Nat
  len : Int
  nm : Option Nat
  nl : Int
  sm : Option Nat
  ex : Value

def sv (x : SV) : Nat → Value
  | 0 => .map x.ml
  | 1 => .map x.mf
  | 2 => .map x.mm
  | 3 => .int .i64 x.len
  | 4 => .map x.nm
  | 5 => .int .i64 x.nl
  | 6 => .int .i32 0
  | 7 => .int .u32 0
  | 8 => .slice none 0 0
  | 9 => .map x.sm
  | _ => x.ex

/-! A store into the set's own block. -/
theorem sv_ml (x : SV) (v : Option Nat) : ∀ j, j < 11 → (if j = 0 then (.map v : Value) else sv x j) = sv { x with ml := v } j := fun j hj => match j, hj with | 0, _ => rfl | 1, _ => rfl | 2, _ => rfl | 3, _ => rfl | 4, _ => rfl | 5, _ => rfl | 6, _ => rfl | 7, _ => rfl | 8, _ => rfl | 9, _ => rfl | 10, _ => rfl
theorem sv_mf (x : SV) (v : Option Nat) : ∀ j, j < 11 → (if j = 1 then (.map v : Value) else sv x j) = sv { x with mf := v } j := fun j hj => match j, hj with | 0, _ => rfl | 1, _ => rfl | 2, _ => rfl | 3, _ => rfl | 4, _ => rfl | 5, _ => rfl | 6, _ => rfl | 7, _ => rfl | 8, _ => rfl | 9, _ => rfl | 10, _ => rfl
theorem sv_mm (x : SV) (v : Option Nat) : ∀ j, j < 11 → (if j = 2 then (.map v : Value) else sv x j) = sv { x with mm := v } j := fun j hj => match j, hj with | 0, _ => rfl | 1, _ => rfl | 2, _ => rfl | 3, _ => rfl | 4, _ => rfl | 5, _ => rfl | 6, _ => rfl | 7, _ => rfl | 8, _ => rfl | 9, _ => rfl | 10, _ => rfl
theorem sv_len (x : SV) (v : Int) : ∀ j, j < 11 → (if j = 3 then (.int .i64 v : Value) else sv x j) = sv { x with len := v } j := fun j hj => match j, hj with | 0, _ => rfl | 1, _ => rfl | 2, _ => rfl | 3, _ => rfl | 4, _ => rfl | 5, _ => rfl | 6, _ => rfl | 7, _ => rfl | 8, _ => rfl | 9, _ => rfl | 10, _ => rfl
theorem sv_nm (x : SV) (v : Option Nat) : ∀ j, j < 11 → (if j = 4 then (.map v : Value) else sv x j) = sv { x with nm := v } j := fun j hj => match j, hj with | 0, _ => rfl | 1, _ => rfl | 2, _ => rfl | 3, _ => rfl | 4, _ => rfl | 5, _ => rfl | 6, _ => rfl | 7, _ => rfl | 8, _ => rfl | 9, _ => rfl | 10, _ => rfl
theorem sv_nl (x : SV) (v : Int) : ∀ j, j < 11 → (if j = 5 then (.int .i64 v : Value) else sv x j) = sv { x with nl := v } j := fun j hj => match j, hj with | 0, _ => rfl | 1, _ => rfl | 2, _ => rfl | 3, _ => rfl | 4, _ => rfl | 5, _ => rfl | 6, _ => rfl | 7, _ => rfl | 8, _ => rfl | 9, _ => rfl | 10, _ => rfl
theorem sv_sm (x : SV) (v : Option Nat) : ∀ j, j < 11 → (if j = 9 then (.map v : Value) else sv x j) = sv { x with sm := v } j := fun j hj => match j, hj with | 0, _ => rfl | 1, _ => rfl | 2, _ => rfl | 3, _ => rfl | 4, _ => rfl | 5, _ => rfl | 6, _ => rfl | 7, _ => rfl | 8, _ => rfl | 9, _ => rfl | 10, _ => rfl
theorem sv_ex (x : SV) (v : Value) : ∀ j, j < 11 → (if j = 10 then (v : Value) else sv x j) = sv { x with ex := v } j := fun j hj => match j, hj with | 0, _ => rfl | 1, _ => rfl | 2, _ => rfl | 3, _ => rfl | 4, _ => rfl | 5, _ => rfl | 6, _ => rfl | 7, _ => rfl | 8, _ => rfl | 9, _ => rfl | 10, _ => rfl

/-! ### The ids held of a source -/
def ids (K : List (ByteArray × ByteArray)) (s : ByteArray) : List ByteArray := (K.filter (fun p => p.1.toList == s.toList)).map (·.2)
theorem ids_same (K : List (ByteArray × ByteArray)) (s i : ByteArray) : ids (K ++ [(s, i)]) s = ids K s ++ [i] := by simp [ids]
theorem ids_other (K : List (ByteArray × ByteArray)) {s s' : ByteArray} (i : ByteArray) (h : s' ≠ s) : ids (K ++ [(s, i)]) s' = ids K s' := by
  have : (s.toList == s'.toList) = false := sbeq_false.2 (fun e => h e.symm)
  simp only [ids, List.filter_append, List.filter_cons, List.filter_nil, this]
  simp
theorem mem_ids {K : List (ByteArray × ByteArray)} {s i : ByteArray} : i ∈ ids K s ↔ (s, i) ∈ K := by
  simp only [ids, List.mem_map, List.mem_filter, sbeq_true]
  constructor
  · rintro ⟨⟨a, b⟩, ⟨h, rfl⟩, rfl⟩; exact h
  · intro h; exact ⟨(s, i), ⟨h, rfl⟩, rfl⟩

def loneOf : List ByteArray → Option Value
  | [i] => some (.string i)
  | _ => none

def LoneP (f : Value → Option Value) (K : List (ByteArray × ByteArray)) : Prop := ∀ s, f (.string s) = loneOf (ids K s)
def FewAt (τ : Nat → Tag) (o : Option Value) (s : ByteArray) (l : List ByteArray) (w : World) : Prop :=
  (o = none ∧ ¬ (2 ≤ l.length ∧ l.length ≤ 8)) ∨ ∃ v, o = some v ∧ 2 ≤ l.length ∧ l.length ≤ 8 ∧ w.ownsRow 0 9 1 v l.length (l.map Value.string) ∧ ∀ g, v.ownBlock = some g → τ g = .row s
def FewP (τ : Nat → Tag) (f : Value → Option Value) (K : List (ByteArray × ByteArray)) (w : World) : Prop := ∀ s, FewAt τ (f (.string s)) s (ids K s) w
def SetIs (w : World) (b : Nat) (l : List ByteArray) : Prop := ∃ f n, MapF Try.prog 9 w b f n ∧ ∀ i, (i ∈ l → f (.string i) = some (.agg #[])) ∧ (i ∉ l → f (.string i) = none)
def ManyAt (τ : Nat → Tag) (o : Option Value) (s : ByteArray) (l : List ByteArray) (w : World) : Prop :=
  (o = none ∧ ¬ 8 < l.length) ∨ ∃ b, o = some (.map (some b)) ∧ 8 < l.length ∧ SetIs w b l ∧ τ b = .set s
def ManyP (τ : Nat → Tag) (f : Value → Option Value) (K : List (ByteArray × ByteArray)) (w : World) : Prop := ∀ s, ManyAt τ (f (.string s)) s (ids K s) w

theorem SetIs.of_block {w w' : World} {b : Nat} {l : List ByteArray} (h : SetIs w b l) (hb : w'.heap[b]? = w.heap[b]?) : SetIs w' b l := by
  obtain ⟨f, n, hf, hi⟩ := h; exact ⟨f, n, hf.of_block hb, hi⟩
theorem SetIs.lt {w : World} {b : Nat} {l : List ByteArray} (h : SetIs w b l) : b < w.heap.size := by obtain ⟨f, n, hf, _⟩ := h; exact hf.lt

theorem owns_move {w w' : World} {e : TypeId} {size : Nat} {v : Value} {n : Nat} {xs : List Value} (h : w.ownsRow 0 e size v n xs) (hb : ∀ g, v.ownBlock = some g → w'.heap[g]? = w.heap[g]?) : w'.ownsRow 0 e size v n xs := by
  refine ⟨h.1, ?_⟩
  rcases h.2 with hn | ⟨g, cap, cur, rfl, hb', hgg, rest⟩
  · exact .inl hn
  · exact .inr ⟨g, cap, cur, rfl, hb', by rw [hb g rfl]; exact hgg, rest⟩

theorem FewAt.move {τ τ' : Nat → Tag} {o : Option Value} {s : ByteArray} {l : List ByteArray} {w w' : World} (h : FewAt τ o s l w) (ht : ∀ k, k < w.heap.size → τ' k = τ k) (hb : ∀ k, k < w.heap.size → τ k = .row s → w'.heap[k]? = w.heap[k]?) : FewAt τ' o s l w' := by
  rcases h with h | ⟨v, hv, h1, h2, h3, h4⟩
  · exact .inl h
  · have hlt := fun g hg => (h3.lt g hg).2
    exact .inr ⟨v, hv, h1, h2, owns_move h3 (fun g hg => hb g (hlt g hg) (h4 g hg)), fun g hg => by rw [ht g (hlt g hg)]; exact h4 g hg⟩
theorem ManyAt.move {τ τ' : Nat → Tag} {o : Option Value} {s : ByteArray} {l : List ByteArray} {w w' : World} (h : ManyAt τ o s l w) (ht : ∀ k, k < w.heap.size → τ' k = τ k) (hb : ∀ k, k < w.heap.size → τ k = .set s → w'.heap[k]? = w.heap[k]?) : ManyAt τ' o s l w' := by
  rcases h with h | ⟨b, hv, h1, h2, h3⟩
  · exact .inl h
  · exact .inr ⟨b, hv, h1, h2.of_block (hb b h2.lt h3), by rw [ht b h2.lt]; exact h3⟩

theorem LoneP.next {f f' : Value → Option Value} {K : List (ByteArray × ByteArray)} {s i : ByteArray} (h : LoneP f K) (hf : ∀ s', s' ≠ s → f' (.string s') = f (.string s')) (hs : f' (.string s) = loneOf (ids K s ++ [i])) : LoneP f' (K ++ [(s, i)]) := by
  intro s'
  by_cases e : s' = s
  · subst e; rw [ids_same]; exact hs
  · rw [ids_other _ _ e, hf s' e]; exact h s'
theorem FewP.next {τ τ' : Nat → Tag} {f f' : Value → Option Value} {K : List (ByteArray × ByteArray)} {s i : ByteArray} {w w' : World} (h : FewP τ f K w) (hf : ∀ s', s' ≠ s → f' (.string s') = f (.string s')) (ht : ∀ k, k < w.heap.size → τ' k = τ k)
    (hb : ∀ s', s' ≠ s → ∀ k, k < w.heap.size → τ k = .row s' → w'.heap[k]? = w.heap[k]?) (hs : FewAt τ' (f' (.string s)) s (ids K s ++ [i]) w') : FewP τ' f' (K ++ [(s, i)]) w' := by
  intro s'
  by_cases e : s' = s
  · subst e; rw [ids_same]; exact hs
  · rw [ids_other _ _ e, hf s' e]; exact (h s').move ht (hb s' e)
theorem ManyP.next {τ τ' : Nat → Tag} {f f' : Value → Option Value} {K : List (ByteArray × ByteArray)} {s i : ByteArray} {w w' : World} (h : ManyP τ f K w) (hf : ∀ s', s' ≠ s → f' (.string s') = f (.string s')) (ht : ∀ k, k < w.heap.size → τ' k = τ k)
    (hb : ∀ s', s' ≠ s → ∀ k, k < w.heap.size → τ k = .set s' → w'.heap[k]? = w.heap[k]?) (hs : ManyAt τ' (f' (.string s)) s (ids K s ++ [i]) w') : ManyP τ' f' (K ++ [(s, i)]) w' := by
  intro s'
  by_cases e : s' = s
  · subst e; rw [ids_same]; exact hs
  · rw [ids_other _ _ e, hf s' e]; exact (h s').move ht (hb s' e)

/-- The keys' part. -/
structure Keep (τ : Nat → Tag) (ml mf mm : Option Nat) (fl ff fm : Value → Option Value) (K : List (ByteArray × ByteArray)) (w : World) : Prop where
  lone : ∃ n, MapO Try.prog 9 w ml fl n
  few : ∃ n, MapO Try.prog 9 w mf ff n
  many : ∃ n, MapO Try.prog 9 w mm fm n
  tl : ∀ b, ml = some b → τ b = .lone
  tf : ∀ b, mf = some b → τ b = .few
  tm : ∀ b, mm = some b → τ b = .many
  hl : LoneP fl K
  hf : FewP τ ff K w
  hm : ManyP τ fm K w
  wf : ∀ p ∈ K, p.1.size ≤ maxLen ∧ p.2.size ≤ maxLen

theorem Keep.move {τ τ' : Nat → Tag} {ml mf mm : Option Nat} {fl ff fm : Value → Option Value} {K : List (ByteArray × ByteArray)} {w w' : World} (h : Keep τ ml mf mm fl ff fm K w) (ht : ∀ k, k < w.heap.size → τ' k = τ k) (hb : ∀ k, k < w.heap.size → (τ k).isKeep → w'.heap[k]? = w.heap[k]?) : Keep τ' ml mf mm fl ff fm K w' := by
  obtain ⟨⟨n1, h1⟩, ⟨n2, h2⟩, ⟨n3, h3⟩, t1, t2, t3, hl, hf, hm, wf⟩ := h
  refine ⟨⟨n1, h1.of_block fun b e => hb b (h1.lt e) ?_⟩, ⟨n2, h2.of_block fun b e => hb b (h2.lt e) ?_⟩, ⟨n3, h3.of_block fun b e => hb b (h3.lt e) ?_⟩, fun b e => ?_, fun b e => ?_, fun b e => ?_, hl, fun s => (hf s).move ht fun k hk e => hb k hk ?_, fun s => (hm s).move ht fun k hk e => hb k hk ?_, wf⟩
  · rw [t1 b e]; trivial
  · rw [t2 b e]; trivial
  · rw [t3 b e]; trivial
  · rw [ht b (h1.lt e)]; exact t1 b e
  · rw [ht b (h2.lt e)]; exact t2 b e
  · rw [ht b (h3.lt e)]; exact t3 b e
  · rw [e]; trivial
  · rw [e]; trivial
end Go.Proofs.Qxb6603530a
