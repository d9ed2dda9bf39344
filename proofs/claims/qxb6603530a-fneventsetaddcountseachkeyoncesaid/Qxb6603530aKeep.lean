import Derived.Test.Qxb6603530aState
namespace Go.Proofs.Qxb6603530a
open Go.ChangeShapes Go.WideShapes Go.ChangeAt Go.RowKit
open MapV

theorem nil26 (w : World) : (binOp .eql 26 (.map none) (.map none)).run Try.prog w = .ok (.bool true) w := by kernel_rfl
theorem nil27 (w : World) : (binOp .eql 27 (.map none) (.map none)).run Try.prog w = .ok (.bool true) w := by kernel_rfl
theorem nil28 (w : World) : (binOp .eql 28 (.map none) (.map none)).run Try.prog w = .ok (.bool true) w := by kernel_rfl
theorem some26 (b : Nat) (w : World) : (binOp .eql 26 (.map (some b)) (.map none)).run Try.prog w = .ok (.bool false) w := by kernel_rfl
theorem some27 (b : Nat) (w : World) : (binOp .eql 27 (.map (some b)) (.map none)).run Try.prog w = .ok (.bool false) w := by kernel_rfl
theorem some28 (b : Nat) (w : World) : (binOp .eql 28 (.map (some b)) (.map none)).run Try.prog w = .ok (.bool false) w := by kernel_rfl

/-- What 'keep' leaves behind. -/
def KeepPost (sB : Nat) (x : SV) (τ : Nat → Tag) (K : List (ByteArray × ByteArray)) (w w' : World) : Prop :=
  ∃ τ' ml mf mm fl ff fm, w'.rowIs sB 45 11 (sv { x with ml := ml, mf := mf, mm := mm }) ∧ Keep τ' ml mf mm fl ff fm K w' ∧ Step Tag.isKeep sB τ τ' w w'

/-- The world on the way, behind the key's box. -/
structure Kx (w : World) (τ0 : Nat → Tag) (x : SV) (K : List (ByteArray × ByteArray)) (s i : ByteArray) (sB kB : Nat) (τ : Nat → Tag) (ml mf mm : Option Nat) (fl ff fm : Value → Option Value) (W : World) : Prop where
  row : W.rowIs sB 45 11 (sv { x with ml := ml, mf := mf, mm := mm })
  keep : Keep τ ml mf mm fl ff fm K W
  b0 : W.cell? ⟨kB, 0, none⟩ = some (.string s)
  b1 : W.cell? ⟨kB, 1, none⟩ = some (.string i)
  fr : Fr (May Tag.isKeep τ0 sB w.heap.size) w W
  tags : ∀ k, k < w.heap.size → τ k = τ0 k
  kb : w.heap.size = kB
  sb : sB < w.heap.size
  sz : kB < W.heap.size
  ts : τ sB = .other
  tk : τ kB = .other

section
variable {w : World} {τ0 : Nat → Tag} {x : SV} {K : List (ByteArray × ByteArray)} {s i : ByteArray} {sB kB : Nat} {τ : Nat → Tag} {ml mf mm : Option Nat} {fl ff fm : Value → Option Value} {W : World}

theorem Kx.start (hr : w.rowIs sB 45 11 (sv x)) (hk : Keep τ0 x.ml x.mf x.mm fl ff fm K w) (ts : τ0 sB = .other) :
    Kx w τ0 x K s i sB w.heap.size (tagAt τ0 w.heap.size .other) x.ml x.mf x.mm fl ff fm (w.alloc (.cells #[.string s, .string i] 78)) :=
  have ht : ∀ k, k < w.heap.size → tagAt τ0 w.heap.size .other k = τ0 k := fun k hk => tagAt_other _ _ (by omega)
  ⟨hr.alloc _, hk.move ht (fun k hk _ => Go.Deep.blk_alloc_lt _ _ _ hk), World.news_of_block (cs := #[.string s, .string i]) (Go.Deep.blk_alloc_new _ _) 0 _ rfl, World.news_of_block (cs := #[.string s, .string i]) (Go.Deep.blk_alloc_new _ _) 1 _ rfl, (Fr.refl _ _).alloc _, ht, rfl, hr.lt, by simp, by rw [ht _ hr.lt]; exact ts, tagAt_same _ _ _⟩
theorem Kx.drewN (h : Kx w τ0 x K s i sB kB τ ml mf mm fl ff fm W) (n : Nat) : Kx w τ0 x K s i sB kB τ ml mf mm fl ff fm (W.drewN n) :=
  ⟨h.row, h.keep.move (fun _ _ => rfl) (fun _ _ _ => rfl), h.b0, h.b1, h.fr.drewN n, h.tags, h.kb, h.sb, h.sz, h.ts, h.tk⟩
theorem Kx.cells (h : Kx w τ0 x K s i sB kB τ ml mf mm fl ff fm W) :
    W.cell? ⟨sB, 0, none⟩ = some (.map ml) ∧ W.cell? ⟨sB, 1, none⟩ = some (.map mf) ∧ W.cell? ⟨sB, 2, none⟩ = some (.map mm) ∧ (∀ j, W.frozen? ⟨sB, j, none⟩ = false) ∧ W.cell? ⟨kB, 0, none⟩ = some (.string s) ∧ W.cell? ⟨kB, 1, none⟩ = some (.string i) :=
  ⟨h.row.cell (i := 0) (by omega), h.row.cell (i := 1) (by omega), h.row.cell (i := 2) (by omega), h.row.frozen, h.b0, h.b1⟩
theorem Kx.lookMany (h : Kx w τ0 x K s i sB kB τ ml mf mm fl ff fm W) (hs : s.size ≤ maxLen) {v : Value} (hv : got true (.map none) (fm (.string s)) = v) (n : Nat) :
    (Instr.lookup 28 (.map mm) (.string s) true).run Try.prog (W.drewN n) = .ok v (W.drewN n) := by
  subst hv
  obtain ⟨m, hm⟩ := h.keep.many
  exact MapO.look (w := W.drewN n) keyed9 Try.underlying28 (hm.of_block fun _ _ => rfl) (key9 s hs) (zero73 _) true
theorem Kx.lookFew (h : Kx w τ0 x K s i sB kB τ ml mf mm fl ff fm W) (hs : s.size ≤ maxLen) {v : Value} (hv : got true (.slice none 0 0) (ff (.string s)) = v) (n : Nat) :
    (Instr.lookup 27 (.map mf) (.string s) true).run Try.prog (W.drewN n) = .ok v (W.drewN n) := by
  subst hv
  obtain ⟨m, hm⟩ := h.keep.few
  exact MapO.look (w := W.drewN n) keyed9 Try.underlying27 (hm.of_block fun _ _ => rfl) (key9 s hs) (zero53 _) true
theorem Kx.lookLone (h : Kx w τ0 x K s i sB kB τ ml mf mm fl ff fm W) (hs : s.size ≤ maxLen) {v : Value} (hv : got true (.string ⟨#[]⟩) (fl (.string s)) = v) (n : Nat) :
    (Instr.lookup 26 (.map ml) (.string s) true).run Try.prog (W.drewN n) = .ok v (W.drewN n) := by
  subst hv
  obtain ⟨m, hm⟩ := h.keep.lone
  exact MapO.look (w := W.drewN n) keyed9 Try.underlying26 (hm.of_block fun _ _ => rfl) (key9 s hs) (zero9 _) true

/-- Nothing but blocks beyond the world has been made. -/
theorem Kx.alloc (h : Kx w τ0 x K s i sB kB τ ml mf mm fl ff fm W) (o : Obj) : Kx w τ0 x K s i sB kB τ ml mf mm fl ff fm (W.alloc o) :=
  have ob : ∀ k, k < W.heap.size → (W.alloc o).heap[k]? = W.heap[k]? := fun k hk => Go.Deep.blk_alloc_lt _ _ _ hk
  ⟨h.row.alloc _, h.keep.move (fun _ _ => rfl) (fun k hk _ => ob k hk), (World.cell?_of_block (w := W) (ob _ h.sz)).trans h.b0, (World.cell?_of_block (w := W) (ob _ h.sz)).trans h.b1, h.fr.alloc _, h.tags, h.kb, h.sb, by simp; have := h.sz; omega, h.ts, h.tk⟩

/-- The end where nothing was added. -/
theorem Kx.same (h : Kx w τ0 x K s i sB kB τ ml mf mm fl ff fm W) : KeepPost sB x τ0 K w W := ⟨τ, ml, mf, mm, fl, ff, fm, h.row, h.keep, h.tags, h.fr⟩

theorem Kx.ne (h : Kx w τ0 x K s i sB kB τ ml mf mm fl ff fm W) {b : Nat} (hb : (τ b).isKeep) : b ≠ sB ∧ b ≠ kB :=
  ⟨fun e => by rw [e, h.ts] at hb; exact hb, fun e => by rw [e, h.tk] at hb; exact hb⟩

theorem Kx.may (h : Kx w τ0 x K s i sB kB τ ml mf mm fl ff fm W) {b : Nat} (hb : (τ b).isKeep) : May Tag.isKeep τ0 sB w.heap.size b := by
  by_cases e : b < w.heap.size
  · exact .inr (.inl (by rw [← h.tags b e]; exact hb))
  · exact .inr (.inr (by omega))

theorem nil_eq {P : Program} {k : TypeId} {w : World} {f : Value → Option Value} {n : Nat} (h : MapO P k w none f n) : f = fun _ => none := funext h.1

/-- A map is made and laid into the set. -/
theorem Kx.mkLone (h : Kx w τ0 x K s i sB kB τ none mf mm fl ff fm W) :
    Kx w τ0 x K s i sB kB (tagAt τ W.heap.size .lone) (some W.heap.size) mf mm fl ff fm ((W.alloc (.map #[] 0)).setCell ⟨sB, 0, none⟩ (.map (some W.heap.size))) := by
  have hs := h.row.lt
  have hk := h.sz
  have hsz := h.fr.size
  have ob : ∀ k, k < W.heap.size → k ≠ sB → ((W.alloc (.map #[] 0)).setCell ⟨sB, 0, none⟩ (.map (some W.heap.size))).heap[k]? = W.heap[k]? := fun k hk hne => by
    rw [Go.Deep.blk_setCell_other _ _ _ _ hne, Go.Deep.blk_alloc_lt _ _ _ hk]
  have hne := fun {b : Nat} (hb : (τ b).isKeep) => (h.ne hb).1
  have ht : ∀ k, k < W.heap.size → tagAt τ W.heap.size .lone k = τ k := fun k hk => tagAt_other _ _ (by omega)
  have hkeep := h.keep.move (τ' := tagAt τ W.heap.size .lone) (w' := (W.alloc (.map #[] 0)).setCell ⟨sB, 0, none⟩ (.map (some W.heap.size))) ht (fun k hk hb => ob k hk (hne hb))
  obtain ⟨n1, h1⟩ := h.keep.lone
  have hsk : sB ≠ kB := by have := h.sb; have := h.kb; omega
  refine ⟨((h.row.alloc _).set 0 _).congr (sv_ml _ _), ⟨⟨0, ?_⟩, hkeep.few, hkeep.many, ?_, hkeep.tf, hkeep.tm, hkeep.hl, hkeep.hf, hkeep.hm, hkeep.wf⟩, (World.cell?_of_block (w := W) (ob _ hk (fun e => hsk e.symm))).trans h.b0, (World.cell?_of_block (w := W) (ob _ hk (fun e => hsk e.symm))).trans h.b1,
    (h.fr.alloc _).setCell (.inl rfl) _, fun k hk' => by rw [ht k (by omega)]; exact h.tags k hk', h.kb, h.sb, by simp [World.setCell]; omega, by rw [ht _ hs]; exact h.ts, by rw [ht _ hk]; exact h.tk⟩
  · have := MapF.new Try.prog 9 W
    rw [← nil_eq h1] at this
    exact MapF.of_block this (Go.Deep.blk_setCell_other _ _ _ _ (by simp; omega))
  · intro b hb
    injection hb with hb
    subst hb
    exact tagAt_same _ _ _

/-- The end: the id is the source's first. -/
theorem Kx.endLone {b n : Nat} {W' : World} (h : Kx w τ0 x K s i sB kB τ (some b) mf mm fl ff fm W) (hi : ids K s = []) (hs : s.size ≤ maxLen) (hi' : i.size ≤ maxLen)
    (hm : MapF Try.prog 9 W' b (upd fl (.string s) (some (.string i))) n) (ht : Turned b W W') : KeepPost sB x τ0 (K ++ [(s, i)]) w W' := by
  have hb := h.keep.tl b rfl
  have hk : (τ b).isKeep := by rw [hb]; trivial
  have ob : ∀ k, k < W.heap.size → k ≠ b → W'.heap[k]? = W.heap[k]? := fun k _ hne => ht.block k hne
  have hne : ∀ k, τ k ≠ .lone → k ≠ b := fun k e1 e2 => e1 (e2 ▸ hb)
  have hup : ∀ s', s' ≠ s → upd fl (.string s) (some (.string i)) (.string s') = fl (.string s') := fun s' e => upd_other _ _ (by simpa using e)
  refine ⟨τ, some b, mf, mm, _, ff, fm, h.row.of_block (ob _ h.row.lt (fun e => (h.ne hk).1 e.symm)), ⟨⟨n, hm⟩, ?_, ?_, h.keep.tl, h.keep.tf, h.keep.tm, h.keep.hl.next hup ?_, h.keep.hf.next (fun _ _ => rfl) (fun _ _ => rfl) ?_ ?_, h.keep.hm.next (fun _ _ => rfl) (fun _ _ => rfl) ?_ ?_, ?_⟩, h.tags, h.fr.turned ht (h.may hk)⟩
  · obtain ⟨n2, h2⟩ := h.keep.few
    exact ⟨n2, h2.of_block fun c e => ob c (h2.lt e) (hne c (by rw [h.keep.tf c e]; simp))⟩
  · obtain ⟨n2, h2⟩ := h.keep.many
    exact ⟨n2, h2.of_block fun c e => ob c (h2.lt e) (hne c (by rw [h.keep.tm c e]; simp))⟩
  · rw [upd_same, hi]; rfl
  · intro s' _ k hk e; exact ob k hk (hne k (by rw [e]; simp))
  · rw [hi]
    left
    rcases h.keep.hf s with ⟨e, _⟩ | ⟨v, _, h1, _⟩
    · exact ⟨e, by simp⟩
    · rw [hi] at h1; simp at h1
  · intro s' _ k hk e; exact ob k hk (hne k (by rw [e]; simp))
  · rw [hi]
    left
    rcases h.keep.hm s with ⟨e, _⟩ | ⟨v, _, h1, _⟩
    · exact ⟨e, by simp⟩
    · rw [hi] at h1; simp at h1
  · intro p hp
    rw [List.mem_append, List.mem_singleton] at hp
    rcases hp with hp | rfl
    · exact h.keep.wf p hp
    · exact ⟨hs, hi'⟩

theorem turned_undrew {b : Nat} {w w' : World} (h : Turned b w.drew w') : Turned b w w' := ⟨h.os, h.tape, h.output, h.size, h.block⟩

/-- The same, with source s on the move. -/
structure Mv (w : World) (τ0 : Nat → Tag) (x : SV) (K : List (ByteArray × ByteArray)) (s i : ByteArray) (sB kB : Nat) (τ : Nat → Tag) (ml mf mm : Option Nat) (fl ff fm : Value → Option Value) (W : World) : Prop where
  row : W.rowIs sB 45 11 (sv { x with ml := ml, mf := mf, mm := mm })
  lone : ∃ n, MapO Try.prog 9 W ml fl n
  few : ∃ n, MapO Try.prog 9 W mf ff n
  many : ∃ n, MapO Try.prog 9 W mm fm n
  tl : ∀ b, ml = some b → τ b = .lone
  tf : ∀ b, mf = some b → τ b = .few
  tm : ∀ b, mm = some b → τ b = .many
  hl : ∀ s', s' ≠ s → fl (.string s') = loneOf (ids K s')
  hf : ∀ s', s' ≠ s → FewAt τ (ff (.string s')) s' (ids K s') W
  hm : ∀ s', s' ≠ s → ManyAt τ (fm (.string s')) s' (ids K s') W
  wf : ∀ p ∈ K, p.1.size ≤ maxLen ∧ p.2.size ≤ maxLen
  b0 : W.cell? ⟨kB, 0, none⟩ = some (.string s)
  b1 : W.cell? ⟨kB, 1, none⟩ = some (.string i)
  fr : Fr (May Tag.isKeep τ0 sB w.heap.size) w W
  tags : ∀ k, k < w.heap.size → τ k = τ0 k
  kb : w.heap.size = kB
  sb : sB < w.heap.size
  sz : kB < W.heap.size
  ts : τ sB = .other
  tk : τ kB = .other

theorem Kx.mv (h : Kx w τ0 x K s i sB kB τ ml mf mm fl ff fm W) : Mv w τ0 x K s i sB kB τ ml mf mm fl ff fm W :=
  ⟨h.row, h.keep.lone, h.keep.few, h.keep.many, h.keep.tl, h.keep.tf, h.keep.tm, fun s' _ => h.keep.hl s', fun s' _ => h.keep.hf s', fun s' _ => h.keep.hm s', h.keep.wf, h.b0, h.b1, h.fr, h.tags, h.kb, h.sb, h.sz, h.ts, h.tk⟩

theorem Mv.ne (h : Mv w τ0 x K s i sB kB τ ml mf mm fl ff fm W) {b : Nat} (hb : (τ b).isKeep) : b ≠ sB ∧ b ≠ kB :=
  ⟨fun e => by rw [e, h.ts] at hb; exact hb, fun e => by rw [e, h.tk] at hb; exact hb⟩
theorem Mv.may (h : Mv w τ0 x K s i sB kB τ ml mf mm fl ff fm W) {b : Nat} (hb : (τ b).isKeep) : May Tag.isKeep τ0 sB w.heap.size b := by
  by_cases e : b < w.heap.size
  · exact .inr (.inl (by rw [← h.tags b e]; exact hb))
  · exact .inr (.inr (by omega))
theorem Mv.new (h : Mv w τ0 x K s i sB kB τ ml mf mm fl ff fm W) : May Tag.isKeep τ0 sB w.heap.size W.heap.size := .inr (.inr h.fr.size)

/-- On to a further world: what is said of the three maps is said anew. -/
theorem Mv.next {τ' : Nat → Tag} {ml' mf' mm' : Option Nat} {fl' ff' fm' : Value → Option Value} {W' : World} (h : Mv w τ0 x K s i sB kB τ ml mf mm fl ff fm W)
    (ht : ∀ k, k < W.heap.size → τ' k = τ k) (hrow : W'.rowIs sB 45 11 (sv { x with ml := ml', mf := mf', mm := mm' })) (hk : W'.heap[kB]? = W.heap[kB]?)
    (l1 : ∃ n, MapO Try.prog 9 W' ml' fl' n) (l2 : ∀ b, ml' = some b → τ' b = .lone) (l3 : ∀ s', s' ≠ s → fl' (.string s') = fl (.string s'))
    (f1 : ∃ n, MapO Try.prog 9 W' mf' ff' n) (f2 : ∀ b, mf' = some b → τ' b = .few) (f3 : ∀ s', s' ≠ s → ff' (.string s') = ff (.string s'))
    (m1 : ∃ n, MapO Try.prog 9 W' mm' fm' n) (m2 : ∀ b, mm' = some b → τ' b = .many) (m3 : ∀ s', s' ≠ s → fm' (.string s') = fm (.string s'))
    (hr : ∀ s', s' ≠ s → ∀ k, k < W.heap.size → τ k = .row s' → W'.heap[k]? = W.heap[k]?) (hse : ∀ s', s' ≠ s → ∀ k, k < W.heap.size → τ k = .set s' → W'.heap[k]? = W.heap[k]?)
    (fr : Fr (May Tag.isKeep τ0 sB w.heap.size) w W') (hsz : W.heap.size ≤ W'.heap.size) : Mv w τ0 x K s i sB kB τ' ml' mf' mm' fl' ff' fm' W' :=
  ⟨hrow, l1, f1, m1, l2, f2, m2, fun s' e => (l3 s' e).trans (h.hl s' e), fun s' e => by rw [f3 s' e]; exact (h.hf s' e).move ht (hr s' e), fun s' e => by rw [m3 s' e]; exact (h.hm s' e).move ht (hse s' e), h.wf,
    (World.cell?_of_block (w := W) hk).trans h.b0, (World.cell?_of_block (w := W) hk).trans h.b1, fr, fun k hk' => by rw [ht k (Nat.lt_of_lt_of_le hk' h.fr.size)]; exact h.tags k hk', h.kb, h.sb, Nat.lt_of_lt_of_le h.sz hsz, by rw [ht _ h.row.lt]; exact h.ts, by rw [ht _ h.sz]; exact h.tk⟩

theorem mapO_keep {P : Program} {k : TypeId} {w w' : World} {o : Option Nat} {f : Value → Option Value} (h : ∃ n, MapO P k w o f n) (hb : ∀ b, b < w.heap.size → o = some b → w'.heap[b]? = w.heap[b]?) : ∃ n, MapO P k w' o f n := by
  obtain ⟨n, h⟩ := h
  exact ⟨n, h.of_block fun b e => hb b (h.lt e) e⟩

/-- Only blocks of source s have turned, or new ones. -/
theorem Mv.touch {τ' : Nat → Tag} {W' : World} (h : Mv w τ0 x K s i sB kB τ ml mf mm fl ff fm W) (ht : ∀ k, k < W.heap.size → τ' k = τ k)
    (hb : ∀ k, k < W.heap.size → τ k ≠ .row s → τ k ≠ .set s → W'.heap[k]? = W.heap[k]?) (fr : Fr (May Tag.isKeep τ0 sB w.heap.size) w W') (hsz : W.heap.size ≤ W'.heap.size) : Mv w τ0 x K s i sB kB τ' ml mf mm fl ff fm W' := by
  have low : ∀ {o : Option Nat} {f : Value → Option Value}, (∃ n, MapO Try.prog 9 W o f n) → ∀ b, o = some b → b < W.heap.size := fun ⟨n, hn⟩ b e => hn.lt e
  refine h.next ht (h.row.of_block (hb _ h.row.lt (by rw [h.ts]; simp) (by rw [h.ts]; simp))) (hb _ h.sz (by rw [h.tk]; simp) (by rw [h.tk]; simp))
    (mapO_keep h.lone fun b hlt e => hb b hlt (by rw [h.tl b e]; simp) (by rw [h.tl b e]; simp)) (fun b e => by rw [ht b (low h.lone b e)]; exact h.tl b e) (fun _ _ => rfl)
    (mapO_keep h.few fun b hlt e => hb b hlt (by rw [h.tf b e]; simp) (by rw [h.tf b e]; simp)) (fun b e => by rw [ht b (low h.few b e)]; exact h.tf b e) (fun _ _ => rfl)
    (mapO_keep h.many fun b hlt e => hb b hlt (by rw [h.tm b e]; simp) (by rw [h.tm b e]; simp)) (fun b e => by rw [ht b (low h.many b e)]; exact h.tm b e) (fun _ _ => rfl)
    (fun s' e k hk ek => hb k hk (by rw [ek]; simp [e]) (by rw [ek]; simp)) (fun s' e k hk ek => hb k hk (by rw [ek]; simp) (by rw [ek]; simp [e])) fr hsz
theorem Mv.drewN (h : Mv w τ0 x K s i sB kB τ ml mf mm fl ff fm W) (n : Nat) : Mv w τ0 x K s i sB kB τ ml mf mm fl ff fm (W.drewN n) :=
  h.touch (fun _ _ => rfl) (fun _ _ _ _ => rfl) (h.fr.drewN n) (Nat.le_refl _)
theorem Mv.drew (h : Mv w τ0 x K s i sB kB τ ml mf mm fl ff fm W) : Mv w τ0 x K s i sB kB τ ml mf mm fl ff fm W.drew :=
  h.touch (fun _ _ => rfl) (fun _ _ _ _ => rfl) h.fr.drew (Nat.le_refl _)
/-- A new block, with its tag. -/
theorem Mv.alloc (h : Mv w τ0 x K s i sB kB τ ml mf mm fl ff fm W) (o : Obj) (t : Tag) : Mv w τ0 x K s i sB kB (tagAt τ W.heap.size t) ml mf mm fl ff fm (W.alloc o) :=
  h.touch (fun k hk => tagAt_other _ _ (by omega)) (fun k hk _ _ => Go.Deep.blk_alloc_lt _ _ _ hk) (h.fr.alloc _) (by simp)
theorem Mv.cells (h : Mv w τ0 x K s i sB kB τ ml mf mm fl ff fm W) :
    W.cell? ⟨sB, 0, none⟩ = some (.map ml) ∧ W.cell? ⟨sB, 1, none⟩ = some (.map mf) ∧ W.cell? ⟨sB, 2, none⟩ = some (.map mm) ∧ (∀ j, W.frozen? ⟨sB, j, none⟩ = false) ∧ W.cell? ⟨kB, 0, none⟩ = some (.string s) ∧ W.cell? ⟨kB, 1, none⟩ = some (.string i) :=
  ⟨h.row.cell (i := 0) (by omega), h.row.cell (i := 1) (by omega), h.row.cell (i := 2) (by omega), h.row.frozen, h.b0, h.b1⟩
theorem Mv.mk_lone (h : Mv w τ0 x K s i sB kB τ none mf mm fl ff fm W) :
    Mv w τ0 x K s i sB kB (tagAt τ W.heap.size .lone) (some W.heap.size) mf mm fl ff fm ((W.alloc (.map #[] 0)).setCell ⟨sB, 0, none⟩ (.map (some W.heap.size))) := by
  have hs := h.row.lt
  have hk := h.sz
  have hsk : kB ≠ sB := by have := h.sb; have := h.kb; omega
  have ht : ∀ k, k < W.heap.size → tagAt τ W.heap.size .lone k = τ k := fun k hk => tagAt_other _ _ (by omega)
  have ob : ∀ k, k < W.heap.size → k ≠ sB → ((W.alloc (.map #[] 0)).setCell ⟨sB, 0, none⟩ (.map (some W.heap.size))).heap[k]? = W.heap[k]? := fun k hk hne => by
    rw [Go.Deep.blk_setCell_other _ _ _ _ hne, Go.Deep.blk_alloc_lt _ _ _ hk]
  have ok : ∀ k, k < W.heap.size → (τ k).isKeep → ((W.alloc (.map #[] 0)).setCell ⟨sB, 0, none⟩ (.map (some W.heap.size))).heap[k]? = W.heap[k]? := fun k hk e => ob k hk (h.ne e).1
  have low : ∀ {o : Option Nat} {f : Value → Option Value}, (∃ n, MapO Try.prog 9 W o f n) → ∀ b, o = some b → b < W.heap.size := fun ⟨n, hn⟩ b e => hn.lt e
  refine h.next ht (((h.row.alloc _).set 0 _).congr (sv_ml _ _)) (ob _ hk hsk)
    (by
      obtain ⟨n1, h1⟩ := h.lone
      have := MapF.new Try.prog 9 W
      rw [← nil_eq h1] at this
      exact ⟨0, MapF.of_block this (Go.Deep.blk_setCell_other _ _ _ _ (by simp; omega))⟩) (fun b e => by injection e with e; subst e; exact tagAt_same _ _ _) (fun _ _ => rfl)
    (mapO_keep h.few fun b hlt e => ok b hlt (by rw [h.tf b e]; trivial)) (fun b e => by rw [ht b (low h.few b e)]; exact h.tf b e) (fun _ _ => rfl)
    (mapO_keep h.many fun b hlt e => ok b hlt (by rw [h.tm b e]; trivial)) (fun b e => by rw [ht b (low h.many b e)]; exact h.tm b e) (fun _ _ => rfl)
    (fun s' e k hk ek => ok k hk (by rw [ek]; trivial)) (fun s' e k hk ek => ok k hk (by rw [ek]; trivial)) ((h.fr.alloc _).setCell (.inl rfl) _) (by simp [World.setCell])
/-- The map of the source s is turned at s alone. -/
theorem Mv.put_lone {b n : Nat} {o : Option Value} {W' : World} (h : Mv w τ0 x K s i sB kB τ (some b) mf mm fl ff fm W)
    (hm : MapF Try.prog 9 W' b (upd fl (.string s) o) n) (ht : Turned b W W') : Mv w τ0 x K s i sB kB τ (some b) mf mm (upd fl (.string s) o) ff fm W' := by
  have hb := h.tl b rfl
  have hkp : (τ b).isKeep := by rw [hb]; trivial
  have ob : ∀ k, τ k ≠ .lone → W'.heap[k]? = W.heap[k]? := fun k e => ht.block k (fun e2 => e (e2 ▸ hb))
  refine h.next (fun _ _ => rfl) (h.row.of_block (ob _ (by rw [h.ts]; simp))) (ob _ (by rw [h.tk]; simp))
    ⟨n, hm⟩ h.tl (fun s' e => upd_other _ _ (by simpa using e))
    (mapO_keep h.few fun b _ e => ob b (by rw [h.tf b e]; simp)) h.tf (fun _ _ => rfl)
    (mapO_keep h.many fun b _ e => ob b (by rw [h.tm b e]; simp)) h.tm (fun _ _ => rfl)
    (fun s' e k hk ek => ob k (by rw [ek]; simp)) (fun s' e k hk ek => ob k (by rw [ek]; simp)) (h.fr.turned ht (h.may hkp)) (by rw [ht.size]; exact Nat.le_refl _)
theorem Mv.mk_few (h : Mv w τ0 x K s i sB kB τ ml none mm fl ff fm W) :
    Mv w τ0 x K s i sB kB (tagAt τ W.heap.size .few) ml (some W.heap.size) mm fl ff fm ((W.alloc (.map #[] 0)).setCell ⟨sB, 1, none⟩ (.map (some W.heap.size))) := by
  have hs := h.row.lt
  have hk := h.sz
  have hsk : kB ≠ sB := by have := h.sb; have := h.kb; omega
  have ht : ∀ k, k < W.heap.size → tagAt τ W.heap.size .few k = τ k := fun k hk => tagAt_other _ _ (by omega)
  have ob : ∀ k, k < W.heap.size → k ≠ sB → ((W.alloc (.map #[] 0)).setCell ⟨sB, 1, none⟩ (.map (some W.heap.size))).heap[k]? = W.heap[k]? := fun k hk hne => by
    rw [Go.Deep.blk_setCell_other _ _ _ _ hne, Go.Deep.blk_alloc_lt _ _ _ hk]
  have ok : ∀ k, k < W.heap.size → (τ k).isKeep → ((W.alloc (.map #[] 0)).setCell ⟨sB, 1, none⟩ (.map (some W.heap.size))).heap[k]? = W.heap[k]? := fun k hk e => ob k hk (h.ne e).1
  have low : ∀ {o : Option Nat} {f : Value → Option Value}, (∃ n, MapO Try.prog 9 W o f n) → ∀ b, o = some b → b < W.heap.size := fun ⟨n, hn⟩ b e => hn.lt e
  refine h.next ht (((h.row.alloc _).set 1 _).congr (sv_mf _ _)) (ob _ hk hsk)
    (mapO_keep h.lone fun b hlt e => ok b hlt (by rw [h.tl b e]; trivial)) (fun b e => by rw [ht b (low h.lone b e)]; exact h.tl b e) (fun _ _ => rfl)
    (by
      obtain ⟨n1, h1⟩ := h.few
      have := MapF.new Try.prog 9 W
      rw [← nil_eq h1] at this
      exact ⟨0, MapF.of_block this (Go.Deep.blk_setCell_other _ _ _ _ (by simp; omega))⟩) (fun b e => by injection e with e; subst e; exact tagAt_same _ _ _) (fun _ _ => rfl)
    (mapO_keep h.many fun b hlt e => ok b hlt (by rw [h.tm b e]; trivial)) (fun b e => by rw [ht b (low h.many b e)]; exact h.tm b e) (fun _ _ => rfl)
    (fun s' e k hk ek => ok k hk (by rw [ek]; trivial)) (fun s' e k hk ek => ok k hk (by rw [ek]; trivial)) ((h.fr.alloc _).setCell (.inl rfl) _) (by simp [World.setCell])
/-- The map of the source s is turned at s alone. -/
theorem Mv.put_few {b n : Nat} {o : Option Value} {W' : World} (h : Mv w τ0 x K s i sB kB τ ml (some b) mm fl ff fm W)
    (hm : MapF Try.prog 9 W' b (upd ff (.string s) o) n) (ht : Turned b W W') : Mv w τ0 x K s i sB kB τ ml (some b) mm fl (upd ff (.string s) o) fm W' := by
  have hb := h.tf b rfl
  have hkp : (τ b).isKeep := by rw [hb]; trivial
  have ob : ∀ k, τ k ≠ .few → W'.heap[k]? = W.heap[k]? := fun k e => ht.block k (fun e2 => e (e2 ▸ hb))
  refine h.next (fun _ _ => rfl) (h.row.of_block (ob _ (by rw [h.ts]; simp))) (ob _ (by rw [h.tk]; simp))
    (mapO_keep h.lone fun b _ e => ob b (by rw [h.tl b e]; simp)) h.tl (fun _ _ => rfl)
    ⟨n, hm⟩ h.tf (fun s' e => upd_other _ _ (by simpa using e))
    (mapO_keep h.many fun b _ e => ob b (by rw [h.tm b e]; simp)) h.tm (fun _ _ => rfl)
    (fun s' e k hk ek => ob k (by rw [ek]; simp)) (fun s' e k hk ek => ob k (by rw [ek]; simp)) (h.fr.turned ht (h.may hkp)) (by rw [ht.size]; exact Nat.le_refl _)
theorem Mv.mk_many (h : Mv w τ0 x K s i sB kB τ ml mf none fl ff fm W) :
    Mv w τ0 x K s i sB kB (tagAt τ W.heap.size .many) ml mf (some W.heap.size) fl ff fm ((W.alloc (.map #[] 0)).setCell ⟨sB, 2, none⟩ (.map (some W.heap.size))) := by
  have hs := h.row.lt
  have hk := h.sz
  have hsk : kB ≠ sB := by have := h.sb; have := h.kb; omega
  have ht : ∀ k, k < W.heap.size → tagAt τ W.heap.size .many k = τ k := fun k hk => tagAt_other _ _ (by omega)
  have ob : ∀ k, k < W.heap.size → k ≠ sB → ((W.alloc (.map #[] 0)).setCell ⟨sB, 2, none⟩ (.map (some W.heap.size))).heap[k]? = W.heap[k]? := fun k hk hne => by
    rw [Go.Deep.blk_setCell_other _ _ _ _ hne, Go.Deep.blk_alloc_lt _ _ _ hk]
  have ok : ∀ k, k < W.heap.size → (τ k).isKeep → ((W.alloc (.map #[] 0)).setCell ⟨sB, 2, none⟩ (.map (some W.heap.size))).heap[k]? = W.heap[k]? := fun k hk e => ob k hk (h.ne e).1
  have low : ∀ {o : Option Nat} {f : Value → Option Value}, (∃ n, MapO Try.prog 9 W o f n) → ∀ b, o = some b → b < W.heap.size := fun ⟨n, hn⟩ b e => hn.lt e
  refine h.next ht (((h.row.alloc _).set 2 _).congr (sv_mm _ _)) (ob _ hk hsk)
    (mapO_keep h.lone fun b hlt e => ok b hlt (by rw [h.tl b e]; trivial)) (fun b e => by rw [ht b (low h.lone b e)]; exact h.tl b e) (fun _ _ => rfl)
    (mapO_keep h.few fun b hlt e => ok b hlt (by rw [h.tf b e]; trivial)) (fun b e => by rw [ht b (low h.few b e)]; exact h.tf b e) (fun _ _ => rfl)
    (by
      obtain ⟨n1, h1⟩ := h.many
      have := MapF.new Try.prog 9 W
      rw [← nil_eq h1] at this
      exact ⟨0, MapF.of_block this (Go.Deep.blk_setCell_other _ _ _ _ (by simp; omega))⟩) (fun b e => by injection e with e; subst e; exact tagAt_same _ _ _) (fun _ _ => rfl)
    (fun s' e k hk ek => ok k hk (by rw [ek]; trivial)) (fun s' e k hk ek => ok k hk (by rw [ek]; trivial)) ((h.fr.alloc _).setCell (.inl rfl) _) (by simp [World.setCell])
/-- The map of the source s is turned at s alone. -/
theorem Mv.put_many {b n : Nat} {o : Option Value} {W' : World} (h : Mv w τ0 x K s i sB kB τ ml mf (some b) fl ff fm W)
    (hm : MapF Try.prog 9 W' b (upd fm (.string s) o) n) (ht : Turned b W W') : Mv w τ0 x K s i sB kB τ ml mf (some b) fl ff (upd fm (.string s) o) W' := by
  have hb := h.tm b rfl
  have hkp : (τ b).isKeep := by rw [hb]; trivial
  have ob : ∀ k, τ k ≠ .many → W'.heap[k]? = W.heap[k]? := fun k e => ht.block k (fun e2 => e (e2 ▸ hb))
  refine h.next (fun _ _ => rfl) (h.row.of_block (ob _ (by rw [h.ts]; simp))) (ob _ (by rw [h.tk]; simp))
    (mapO_keep h.lone fun b _ e => ob b (by rw [h.tl b e]; simp)) h.tl (fun _ _ => rfl)
    (mapO_keep h.few fun b _ e => ob b (by rw [h.tf b e]; simp)) h.tf (fun _ _ => rfl)
    ⟨n, hm⟩ h.tm (fun s' e => upd_other _ _ (by simpa using e))
    (fun s' e k hk ek => ob k (by rw [ek]; simp)) (fun s' e k hk ek => ob k (by rw [ek]; simp)) (h.fr.turned ht (h.may hkp)) (by rw [ht.size]; exact Nat.le_refl _)
/-- The end. -/
theorem Mv.done (h : Mv w τ0 x K s i sB kB τ ml mf mm fl ff fm W) (hs : s.size ≤ maxLen) (hi' : i.size ≤ maxLen) (hl : fl (.string s) = loneOf (ids K s ++ [i])) (hf : FewAt τ (ff (.string s)) s (ids K s ++ [i]) W) (hm : ManyAt τ (fm (.string s)) s (ids K s ++ [i]) W) :
    KeepPost sB x τ0 (K ++ [(s, i)]) w W := by
  refine ⟨τ, ml, mf, mm, fl, ff, fm, h.row, ⟨h.lone, h.few, h.many, h.tl, h.tf, h.tm, fun s' => ?_, fun s' => ?_, fun s' => ?_, fun p hp => ?_⟩, h.tags, h.fr⟩
  · by_cases e : s' = s
    · subst e; rw [ids_same]; exact hl
    · rw [ids_other _ _ e]; exact h.hl s' e
  · by_cases e : s' = s
    · subst e; rw [ids_same]; exact hf
    · rw [ids_other _ _ e]; exact h.hf s' e
  · by_cases e : s' = s
    · subst e; rw [ids_same]; exact hm
    · rw [ids_other _ _ e]; exact h.hm s' e
  · rw [List.mem_append, List.mem_singleton] at hp
    rcases hp with hp | rfl
    · exact h.wf p hp
    · exact ⟨hs, hi'⟩
end
end Go.Proofs.Qxb6603530a
