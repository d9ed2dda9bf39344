import Derived.Test.Qxb6603530aNode
namespace Go.Proofs.Qxb6603530a
open Go.ChangeShapes Go.WideShapes Go.ChangeAt Go.RowKit
open MapV

/-! ### The services' part of the set -/
def isDep (e : Ev) : Bool := e.typ.toList == kDeployed
def isIns (e : Ev) : Bool := e.typ.toList == kInstances
def isEx (e : Ev) : Bool := e.typ.toList == kExecuted
def isSv (e : Ev) : Bool := e.typ.toList == kDeployed || e.typ.toList == kInstances
def nDep (K : List Ev) (s : ByteArray) : Nat := K.countP (fun e => isDep e && e.subj.toList == s.toList)
def nIns (K : List Ev) (s : ByteArray) : Nat := K.countP (fun e => isIns e && e.subj.toList == s.toList)
def nEx (K : List Ev) : Nat := K.countP isEx

def hv (v1 v2 : Value) : Nat → Value
  | 0 => v1
  | _ => v2

/-- A service's history. -/
structure Hist (τ : Nat → Tag) (hb : Nat) (s : ByteArray) (d i : Nat) (v1 v2 : Value) (w : World) : Prop where
  tag : τ hb = .svc s
  row : w.rowIs hb 89 2 (hv v1 v2)
  own1 : ∃ xs, w.ownsRow 0 103 5 v1 d xs
  tag1 : ∀ g, v1.ownBlock = some g → τ g = .deps s
  own2 : ∃ xs, w.ownsRow 0 105 4 v2 i xs
  tag2 : ∀ g, v2.ownBlock = some g → τ g = .samps s

def SvcAt (τ : Nat → Tag) (o : Option Value) (s : ByteArray) (d i : Nat) (w : World) : Prop :=
  (o = none ∧ d = 0 ∧ i = 0) ∨ ∃ hb v1 v2, o = some (.pointer (some ⟨hb, 0, none⟩)) ∧ 0 < d + i ∧ Hist τ hb s d i v1 v2 w

def Tag.ofSvc (s : ByteArray) (t : Tag) : Prop := t = .svc s ∨ t = .deps s ∨ t = .samps s

theorem Hist.move {τ τ' : Nat → Tag} {hb : Nat} {s : ByteArray} {d i : Nat} {v1 v2 : Value} {w w' : World} (h : Hist τ hb s d i v1 v2 w) (ht : ∀ k, k < w.heap.size → τ' k = τ k) (hbl : ∀ k, k < w.heap.size → (τ k).ofSvc s → w'.heap[k]? = w.heap[k]?) : Hist τ' hb s d i v1 v2 w' := by
  obtain ⟨xs, h1⟩ := h.own1
  obtain ⟨ys, h2⟩ := h.own2
  have l1 := fun g hg => (h1.lt g hg).2
  have l2 := fun g hg => (h2.lt g hg).2
  exact ⟨by rw [ht hb h.row.lt]; exact h.tag, h.row.of_block (hbl hb h.row.lt (.inl h.tag)), ⟨xs, owns_move h1 (fun g hg => hbl g (l1 g hg) (.inr (.inl (h.tag1 g hg))))⟩, fun g hg => by rw [ht g (l1 g hg)]; exact h.tag1 g hg,
    ⟨ys, owns_move h2 (fun g hg => hbl g (l2 g hg) (.inr (.inr (h.tag2 g hg))))⟩, fun g hg => by rw [ht g (l2 g hg)]; exact h.tag2 g hg⟩
theorem SvcAt.move {τ τ' : Nat → Tag} {o : Option Value} {s : ByteArray} {d i : Nat} {w w' : World} (h : SvcAt τ o s d i w) (ht : ∀ k, k < w.heap.size → τ' k = τ k) (hbl : ∀ k, k < w.heap.size → (τ k).ofSvc s → w'.heap[k]? = w.heap[k]?) : SvcAt τ' o s d i w' := by
  rcases h with h | ⟨hb, v1, v2, h1, h2, h3⟩
  · exact .inl h
  · exact .inr ⟨hb, v1, v2, h1, h2, h3.move ht hbl⟩

/-- The executions. -/
def Execs (τ : Nat → Tag) (v : Value) (n : Nat) (w : World) : Prop := (∃ xs, w.ownsRow 0 50 3 v n xs) ∧ ∀ g, v.ownBlock = some g → τ g = .execs
theorem Execs.move {τ τ' : Nat → Tag} {v : Value} {n : Nat} {w w' : World} (h : Execs τ v n w) (ht : ∀ k, k < w.heap.size → τ' k = τ k) (hbl : ∀ k, k < w.heap.size → τ k = .execs → w'.heap[k]? = w.heap[k]?) : Execs τ' v n w' := by
  obtain ⟨⟨xs, h1⟩, h2⟩ := h
  have l1 := fun g hg => (h1.lt g hg).2
  exact ⟨⟨xs, owns_move h1 (fun g hg => hbl g (l1 g hg) (h2 g hg))⟩, fun g hg => by rw [ht g (l1 g hg)]; exact h2 g hg⟩

structure Svcs (τ : Nat → Tag) (sm : Option Nat) (fs : Value → Option Value) (n : Nat) (ex : Value) (K : List Ev) (w : World) : Prop where
  map : MapO Try.prog 9 w sm fs n
  tag : ∀ b, sm = some b → τ b = .svcs
  at_ : ∀ s, SvcAt τ (fs (.string s)) s (nDep K s) (nIns K s) w
  exec : Execs τ ex (nEx K) w

theorem ofSvc_isSvc {s : ByteArray} {t : Tag} (h : t.ofSvc s) : t.isSvc := by
  rcases h with h | h | h <;> (rw [h]; trivial)
theorem Svcs.move {τ τ' : Nat → Tag} {sm : Option Nat} {fs : Value → Option Value} {n : Nat} {ex : Value} {K : List Ev} {w w' : World} (h : Svcs τ sm fs n ex K w) (ht : ∀ k, k < w.heap.size → τ' k = τ k) (hb : ∀ k, k < w.heap.size → (τ k).isSvc → w'.heap[k]? = w.heap[k]?) : Svcs τ' sm fs n ex K w' :=
  ⟨h.map.of_block fun b e => hb b (h.map.lt e) (by rw [h.tag b e]; trivial), fun b e => by rw [ht b (h.map.lt e)]; exact h.tag b e, fun s => (h.at_ s).move ht fun k hk e => hb k hk (ofSvc_isSvc e), h.exec.move ht fun k hk e => hb k hk (by rw [e]; trivial)⟩

/-- On the way, service s on the move. -/
structure SM (w : World) (τ0 : Nat → Tag) (x : SV) (K : List Ev) (s : ByteArray) (sB : Nat) (τ : Nat → Tag) (sm : Option Nat) (fs : Value → Option Value) (n : Nat) (W : World) : Prop where
  row : W.rowIs sB 45 11 (sv { x with sm := sm })
  map : MapO Try.prog 9 W sm fs n
  tag : ∀ b, sm = some b → τ b = .svcs
  at_ : ∀ s', s' ≠ s → SvcAt τ (fs (.string s')) s' (nDep K s') (nIns K s') W
  exec : Execs τ x.ex (nEx K) W
  fr : Fr (May Tag.isSvc τ0 sB w.heap.size) w W
  tags : ∀ k, k < w.heap.size → τ k = τ0 k
  sb : sB < w.heap.size
  ts : τ sB = .other

section
variable {w : World} {τ0 : Nat → Tag} {x : SV} {K : List Ev} {s : ByteArray} {sB : Nat} {τ : Nat → Tag} {sm : Option Nat} {fs : Value → Option Value} {n : Nat} {W : World}

theorem SM.start (hr : w.rowIs sB 45 11 (sv x)) (hk : Svcs τ0 x.sm fs n x.ex K w) (ts : τ0 sB = .other) : SM w τ0 x K s sB τ0 x.sm fs n w :=
  ⟨hr, hk.map, hk.tag, fun s' _ => hk.at_ s', hk.exec, Fr.refl _ _, fun _ _ => rfl, hr.lt, ts⟩
theorem SM.ne (h : SM w τ0 x K s sB τ sm fs n W) {b : Nat} (hb : (τ b).isSvc) : b ≠ sB := fun e => by rw [e, h.ts] at hb; exact hb
theorem SM.may (h : SM w τ0 x K s sB τ sm fs n W) {b : Nat} (hb : (τ b).isSvc) : May Tag.isSvc τ0 sB w.heap.size b := by
  by_cases e : b < w.heap.size
  · exact .inr (.inl (by rw [← h.tags b e]; exact hb))
  · exact .inr (.inr (by omega))
theorem SM.touch {τ' : Nat → Tag} {W' : World} (h : SM w τ0 x K s sB τ sm fs n W) (ht : ∀ k, k < W.heap.size → τ' k = τ k)
    (hb : ∀ k, k < W.heap.size → ¬ (τ k).ofSvc s → W'.heap[k]? = W.heap[k]?) (fr : Fr (May Tag.isSvc τ0 sB w.heap.size) w W') : SM w τ0 x K s sB τ' sm fs n W' := by
  refine ⟨h.row.of_block (hb _ h.row.lt (by rw [h.ts]; simp [Tag.ofSvc])), h.map.of_block fun b eb => hb b (h.map.lt eb) (by rw [h.tag b eb]; simp [Tag.ofSvc]), fun b eb => by rw [ht b (h.map.lt eb)]; exact h.tag b eb,
    fun s' hs => (h.at_ s' hs).move ht fun k hk ek => hb k hk ?_, h.exec.move ht fun k hk ek => hb k hk (by rw [ek]; simp [Tag.ofSvc]), fr, fun k hk => by rw [ht k (Nat.lt_of_lt_of_le hk h.fr.size)]; exact h.tags k hk, h.sb, by rw [ht _ h.row.lt]; exact h.ts⟩
  rcases ek with ek | ek | ek <;> (rw [ek]; simp [Tag.ofSvc, hs])
theorem SM.drewN (h : SM w τ0 x K s sB τ sm fs n W) (k : Nat) : SM w τ0 x K s sB τ sm fs n (W.drewN k) := h.touch (fun _ _ => rfl) (fun _ _ _ => rfl) (h.fr.drewN k)
theorem SM.drew (h : SM w τ0 x K s sB τ sm fs n W) : SM w τ0 x K s sB τ sm fs n W.drew := h.touch (fun _ _ => rfl) (fun _ _ _ => rfl) h.fr.drew
theorem SM.alloc (h : SM w τ0 x K s sB τ sm fs n W) (o : Obj) (t : Tag) : SM w τ0 x K s sB (tagAt τ W.heap.size t) sm fs n (W.alloc o) :=
  h.touch (fun k hk => tagAt_other _ _ (by omega)) (fun k hk _ => Go.Deep.blk_alloc_lt _ _ _ hk) (h.fr.alloc _)
theorem SM.store (h : SM w τ0 x K s sB τ sm fs n W) {hb : Nat} (ht : τ hb = .svc s) (j : Nat) (v : Value) : SM w τ0 x K s sB τ sm fs n (W.setCell ⟨hb, j, none⟩ v) :=
  h.touch (fun _ _ => rfl) (fun k _ h1 => Go.Deep.blk_setCell_other _ _ _ _ (fun e2 => h1 (by rw [e2]; exact .inl ht))) (h.fr.setCell (a := ⟨hb, j, none⟩) (h.may (by show (τ hb).isSvc; rw [ht]; trivial)) _)
theorem SM.grown {v : Value} {gg : Nat} {W1 : World} {t : Tag} (h : SM w τ0 x K s sB τ sm fs n W) (ht : t.ofSvc s) (hv : ∀ g, v.ownBlock = some g → τ g = t) (hg : W.grownBy W1 v.ownBlock) (hat : v.ownBlock = some gg ∨ gg = W.heap.size) :
    SM w τ0 x K s sB (tagAt τ gg t) sm fs n W1 := by
  refine h.touch (fun k hk => ?_) (fun k hk h2 => hg.block k hk (fun e2 => h2 (by rw [hv k e2.symm]; exact ht))) (h.fr.grown hg (fun k ek => h.may (by rw [hv k ek]; exact ofSvc_isSvc ht)))
  by_cases ek : k = gg
  · subst ek
    rcases hat with e1 | e1
    · rw [tagAt_same, hv k e1]
    · omega
  · exact tagAt_other _ _ ek
theorem SM.put {b n' : Nat} {o : Option Value} {W' : World} (h : SM w τ0 x K s sB τ (some b) fs n W) (hm : MapF Try.prog 9 W' b (upd fs (.string s) o) n') (ht : Turned b W W') :
    SM w τ0 x K s sB τ (some b) (upd fs (.string s) o) n' W' := by
  have hb := h.tag b rfl
  have hn : (τ b).isSvc := by rw [hb]; trivial
  have ob : ∀ k, τ k ≠ .svcs → W'.heap[k]? = W.heap[k]? := fun k e1 => ht.block k (fun e2 => e1 (e2 ▸ hb))
  refine ⟨h.row.of_block (ob _ (by rw [h.ts]; simp)), hm, h.tag, fun s' hs => ?_, h.exec.move (fun _ _ => rfl) (fun k _ ek => ob k (by rw [ek]; simp)), h.fr.turned ht (h.may hn), h.tags, h.sb, h.ts⟩
  rw [upd_other _ _ (by simpa using hs)]
  exact (h.at_ s' hs).move (fun _ _ => rfl) (fun k _ ek => ob k (by rcases ek with ek | ek | ek <;> (rw [ek]; simp)))
theorem SM.mkSvcs (h : SM w τ0 x K s sB τ none fs n W) :
    SM w τ0 x K s sB (tagAt τ W.heap.size .svcs) (some W.heap.size) fs n ((W.alloc (.map #[] 0)).setCell ⟨sB, 9, none⟩ (.map (some W.heap.size))) := by
  have hs := h.row.lt
  have ht : ∀ k, k < W.heap.size → tagAt τ W.heap.size .svcs k = τ k := fun k hk => tagAt_other _ _ (by omega)
  have ob : ∀ k, k < W.heap.size → k ≠ sB → ((W.alloc (.map #[] 0)).setCell ⟨sB, 9, none⟩ (.map (some W.heap.size))).heap[k]? = W.heap[k]? := fun k hk hne => by
    rw [Go.Deep.blk_setCell_other _ _ _ _ hne, Go.Deep.blk_alloc_lt _ _ _ hk]
  have h1 := h.map
  have hnew : MapF Try.prog 9 (W.alloc (.map #[] 0)) W.heap.size fs n := by rw [h1.2, nil_eq h1]; exact MapF.new _ _ _
  refine ⟨((h.row.alloc _).set 9 _).congr (sv_sm _ _), MapF.of_block hnew (Go.Deep.blk_setCell_other _ _ _ _ (by simp; omega)), fun b hb => by injection hb with hb; subst hb; exact tagAt_same _ _ _, fun s' e => (h.at_ s' e).move ht (fun k hk ek => ob k hk (h.ne (ofSvc_isSvc ek))), h.exec.move ht (fun k hk ek => ob k hk (h.ne (by rw [ek]; trivial))),
    (h.fr.alloc _).setCell (.inl rfl) _, fun k hk => by rw [ht k (Nat.lt_of_lt_of_le hk h.fr.size)]; exact h.tags k hk, h.sb, by rw [ht _ hs]; exact h.ts⟩

/-- What 'ServiceLog.Add' leaves behind. -/
def SvcPost (sB : Nat) (x : SV) (τ : Nat → Tag) (n' : Nat) (K : List Ev) (w w' : World) : Prop :=
  ∃ τ' sm fs ex, w'.rowIs sB 45 11 (sv { x with sm := sm, ex := ex }) ∧ Svcs τ' sm fs n' ex K w' ∧ Step Tag.isSvc sB τ τ' w w'

theorem nDep_snoc (K : List Ev) (e : Ev) (s : ByteArray) : nDep (K ++ [e]) s = nDep K s + if isDep e && e.subj.toList == s.toList then 1 else 0 := by
  simp [nDep, List.countP_append, List.countP_cons]
theorem nIns_snoc (K : List Ev) (e : Ev) (s : ByteArray) : nIns (K ++ [e]) s = nIns K s + if isIns e && e.subj.toList == s.toList then 1 else 0 := by
  simp [nIns, List.countP_append, List.countP_cons]
theorem nEx_snoc (K : List Ev) (e : Ev) : nEx (K ++ [e]) = nEx K + if isEx e then 1 else 0 := by
  simp [nEx, List.countP_append, List.countP_cons]

/-- The end, at a service's event. -/
theorem SM.done {e : Ev} {hb : Nat} {v1 v2 : Value} {d i : Nat} (h : SM w τ0 x K e.subj sB τ sm fs n W) (hx : isEx e = false) (hd : nDep (K ++ [e]) e.subj = d) (hi : nIns (K ++ [e]) e.subj = i) (hpos : 0 < d + i) (hfs : fs (.string e.subj) = some (.pointer (some ⟨hb, 0, none⟩))) (hh : Hist τ hb e.subj d i v1 v2 W) :
    SvcPost sB x τ0 n (K ++ [e]) w W := by
  refine ⟨τ, sm, fs, x.ex, h.row, ⟨h.map, h.tag, fun s' => ?_, ?_⟩, h.tags, h.fr⟩
  · by_cases es : s' = e.subj
    · subst es
      rw [hd, hi]
      exact .inr ⟨hb, v1, v2, hfs, hpos, hh⟩
    · have hne : (e.subj.toList == s'.toList) = false := sbeq_false.2 (fun h => es h.symm)
      rw [nDep_snoc, nIns_snoc, hne]
      simpa using h.at_ s' es
  · rw [nEx_snoc, hx]
    simpa using h.exec
end
end Go.Proofs.Qxb6603530a
