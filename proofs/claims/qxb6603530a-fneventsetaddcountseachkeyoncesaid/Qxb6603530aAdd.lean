import Derived.Test.Qxb6603530aNode5
import Derived.Test.Qxb6603530aSvc4
namespace Go.Proofs.Qxb6603530a
open Go.ChangeShapes Go.WideShapes Go.ChangeAt Go.RowKit
open MapV

/-! ### How many names -/
def nNamesR : List Ev → Nat
  | [] => 0
  | e :: r => if isNd e && (ofNode r.reverse e.clu e.subj).isEmpty then nNamesR r + 1 else nNamesR r
def nNames (K : List Ev) : Nat := nNamesR K.reverse
theorem nNames_snoc (K : List Ev) (e : Ev) : nNames (K ++ [e]) = if isNd e && (ofNode K e.clu e.subj).isEmpty then nNames K + 1 else nNames K := by
  simp [nNames, nNamesR]
def nSvcsR : List Ev → Nat
  | [] => 0
  | e :: r => if isSv e then nextN (nDep r.reverse e.subj + nIns r.reverse e.subj) (nSvcsR r) else nSvcsR r
def nSvcs (K : List Ev) : Nat := nSvcsR K.reverse
theorem nSvcs_snoc (K : List Ev) (e : Ev) : nSvcs (K ++ [e]) = if isSv e then nextN (nDep K e.subj + nIns K e.subj) (nSvcs K) else nSvcs K := by
  simp [nSvcs, nSvcsR]

def key (e : Ev) : ByteArray × ByteArray := (e.src, e.id)

/-- The whole set, its three parts at their own lists. -/
structure Sx (sB : Nat) (τ : Nat → Tag) (x : SV) (K1 K2 K3 : List Ev) (L : Int) (w : World) : Prop where
  row : w.rowIs sB 45 11 (sv x)
  ts : τ sB = .other
  low : ∀ k, k < sB → τ k = .other
  keep : ∃ fl ff fm, Keep τ x.ml x.mf x.mm fl ff fm (K1.map key) w
  nodes : ∃ fn, Nodes τ x.nm fn (nNames K2) K2 w
  svcs : ∃ fs, Svcs τ x.sm fs (nSvcs K3) x.ex K3 w
  len : x.len = L
  nl : x.nl = (K2.countP isNd : Nat)

/-- What lies beyond the set's own blocks is as it was. -/
structure Up (sB : Nat) (τ τ' : Nat → Tag) (w w' : World) : Prop where
  os : w'.os = w.os
  tape : w'.tape = w.tape
  output : w'.output = w.output
  size : w.heap.size ≤ w'.heap.size
  box : ∀ b, b < w.heap.size → b ≠ sB → τ b = .other → w'.heap[b]? = w.heap[b]? ∧ τ' b = .other

theorem Up.refl (sB : Nat) (τ : Nat → Tag) (w : World) : Up sB τ τ w w := ⟨rfl, rfl, rfl, Nat.le_refl _, fun _ _ _ h => ⟨rfl, h⟩⟩
theorem Up.trans {sB : Nat} {τ τ' τ'' : Nat → Tag} {a b c : World} (h : Up sB τ τ' a b) (k : Up sB τ' τ'' b c) : Up sB τ τ'' a c :=
  ⟨k.os.trans h.os, k.tape.trans h.tape, k.output.trans h.output, Nat.le_trans h.size k.size, fun i hi hne ht => by
    obtain ⟨h1, h2⟩ := h.box i hi hne ht
    obtain ⟨h3, h4⟩ := k.box i (Nat.lt_of_lt_of_le hi h.size) hne h2
    exact ⟨h3.trans h1, h4⟩⟩
theorem Up.of_step {T : Tag → Prop} {sB : Nat} {τ τ' : Nat → Tag} {w w' : World} (h : Step T sB τ τ' w w') (hT : ¬ T .other) : Up sB τ τ' w w' :=
  ⟨h.fr.os, h.fr.tape, h.fr.output, h.fr.size, fun b hb hne ht => ⟨h.fr.block b hb (fun hm => by
    rcases hm with e | e | e
    · exact hne e
    · rw [ht] at e; exact hT e
    · omega), by rw [h.tags b hb]; exact ht⟩⟩
theorem Up.of_below {sB : Nat} {τ : Nat → Tag} {w w' : World} (h : Below w.heap.size w w') : Up sB τ τ w w' := ⟨h.os, h.tape, h.output, h.size, fun b hb _ ht => ⟨h.block b hb, ht⟩⟩
theorem Up.below {sB : Nat} {τ τ' : Nat → Tag} {w w' : World} (h : Up sB τ τ' w w') (low : ∀ k, k < sB → τ k = .other) (hs : sB < w.heap.size) : Below sB w w' :=
  ⟨h.os, h.tape, h.output, h.size, fun k hk => (h.box k (by omega) (by omega) (low k hk)).1⟩

section
variable {sB : Nat} {τ : Nat → Tag} {x : SV} {K1 K2 K3 : List Ev} {L : Int} {w w' : World}
theorem Sx.beneath (h : Sx sB τ x K1 K2 K3 L w) (hb : Below w.heap.size w w') : Sx sB τ x K1 K2 K3 L w' := by
  obtain ⟨fl, ff, fm, hk⟩ := h.keep
  obtain ⟨fn, hn⟩ := h.nodes
  obtain ⟨fs, hs⟩ := h.svcs
  exact ⟨h.row.of_block (hb.block _ h.row.lt), h.ts, h.low, ⟨fl, ff, fm, hk.move (fun _ _ => rfl) (fun k hk _ => hb.block k hk)⟩, ⟨fn, hn.move (fun _ _ => rfl) (fun k hk _ => hb.block k hk)⟩, ⟨fs, hs.move (fun _ _ => rfl) (fun k hk _ => hb.block k hk)⟩, h.len, h.nl⟩
theorem Sx.drew (h : Sx sB τ x K1 K2 K3 L w) : Sx sB τ x K1 K2 K3 L w.drew := h.beneath ⟨rfl, rfl, rfl, Nat.le_refl _, fun _ _ => rfl⟩

theorem apart_kn {t : Tag} (h : t.isNode) : ¬ t.isKeep := by cases t <;> simp_all [Tag.isNode, Tag.isKeep]
theorem apart_ks {t : Tag} (h : t.isSvc) : ¬ t.isKeep := by cases t <;> simp_all [Tag.isSvc, Tag.isKeep]
theorem apart_nk {t : Tag} (h : t.isKeep) : ¬ t.isNode := by cases t <;> simp_all [Tag.isNode, Tag.isKeep]
theorem apart_ns {t : Tag} (h : t.isSvc) : ¬ t.isNode := by cases t <;> simp_all [Tag.isNode, Tag.isSvc]
theorem apart_sk {t : Tag} (h : t.isKeep) : ¬ t.isSvc := by cases t <;> simp_all [Tag.isSvc, Tag.isKeep]
theorem apart_sn {t : Tag} (h : t.isNode) : ¬ t.isSvc := by cases t <;> simp_all [Tag.isNode, Tag.isSvc]
theorem step_block {T T' : Tag → Prop} {τ' : Nat → Tag} (h : Step T sB τ τ' w w') (ts : τ sB = .other) (ho : ¬ T' .other) (hTT : ∀ t, T' t → ¬ T t) : ∀ k, k < w.heap.size → T' (τ k) → w'.heap[k]? = w.heap[k]? := fun k hk ht => h.fr.block k hk (fun hm => by
  rcases hm with e | e | e
  · rw [e, ts] at ht; exact ho ht
  · exact hTT _ ht e
  · omega)

theorem Sx.keepStep {K1' : List Ev} (h : Sx sB τ x K1 K2 K3 L w) (hp : KeepPost sB x τ (K1'.map key) w w') : ∃ τ' x', Sx sB τ' x' K1' K2 K3 L w' ∧ Up sB τ τ' w w' := by
  obtain ⟨τ', ml, mf, mm, fl, ff, fm, hr, hk, hst⟩ := hp
  obtain ⟨fn, hn⟩ := h.nodes
  obtain ⟨fs, hs⟩ := h.svcs
  have hlt := h.row.lt
  exact ⟨τ', _, ⟨hr, by rw [hst.tags _ hlt]; exact h.ts, fun k hk => by rw [hst.tags k (by omega)]; exact h.low k hk, ⟨fl, ff, fm, hk⟩,
    ⟨fn, hn.move hst.tags (step_block hst h.ts (fun h => h) (fun _ => apart_kn))⟩, ⟨fs, hs.move hst.tags (step_block hst h.ts (fun h => h) (fun _ => apart_ks))⟩, h.len, h.nl⟩, Up.of_step hst (fun h => h)⟩
theorem Sx.lenStep (h : Sx sB τ x K1 K2 K3 L w) : Sx sB τ { x with len := L + 1 } K1 K2 K3 (L + 1) (w.setCell ⟨sB, 3, none⟩ (.int .i64 (L + 1))) ∧ Up sB τ τ w (w.setCell ⟨sB, 3, none⟩ (.int .i64 (L + 1))) := by
  obtain ⟨fl, ff, fm, hk⟩ := h.keep
  obtain ⟨fn, hn⟩ := h.nodes
  obtain ⟨fs, hs⟩ := h.svcs
  have ob : ∀ k, k ≠ sB → (w.setCell ⟨sB, 3, none⟩ (.int .i64 (L + 1))).heap[k]? = w.heap[k]? := fun k hk => Go.Deep.blk_setCell_other _ _ _ _ hk
  refine ⟨⟨(h.row.set 3 _).congr (sv_len _ _), h.ts, h.low, ⟨fl, ff, fm, hk.move (fun _ _ => rfl) (fun k _ ht => ob k (fun e => by rw [e, h.ts] at ht; exact ht))⟩, ⟨fn, hn.move (fun _ _ => rfl) (fun k _ ht => ob k (fun e => by rw [e, h.ts] at ht; exact ht))⟩, ⟨fs, hs.move (fun _ _ => rfl) (fun k _ ht => ob k (fun e => by rw [e, h.ts] at ht; exact ht))⟩, rfl, h.nl⟩,
    ⟨rfl, rfl, rfl, by simp [World.setCell], fun b _ hne ht => ⟨ob b hne, ht⟩⟩⟩

/-- 'keep', over the set. -/
theorem keep_sx_new (h : Sx sB τ x K1 K2 K3 L w) {e : Ev} (hs : e.src.size ≤ maxLen) (hi : e.id.size ≤ maxLen) (hin : key e ∉ K1.map key) :
    Calls Try.prog 25 #[.pointer (some ⟨sB, 0, none⟩), keyVal e.src e.id] w fun r w' => r = .returned (.bool true) ∧ ∃ τ' x', Sx sB τ' x' (K1 ++ [e]) K2 K3 L w' ∧ Up sB τ τ' w w' := by
  obtain ⟨fl, ff, fm, hk⟩ := h.keep
  refine (keep_new sB x e.src e.id τ fl ff fm _ w h.row hk h.ts hs hi hin).mono fun r w' ⟨h1, h2⟩ => ⟨h1, ?_⟩
  exact h.keepStep (K1' := K1 ++ [e]) (by rw [List.map_append]; exact h2)
theorem keep_sx_old (h : Sx sB τ x K1 K2 K3 L w) {e : Ev} (hs : e.src.size ≤ maxLen) (hi : e.id.size ≤ maxLen) (hin : key e ∈ K1.map key) :
    Calls Try.prog 25 #[.pointer (some ⟨sB, 0, none⟩), keyVal e.src e.id] w fun r w' => r = .returned (.bool false) ∧ ∃ τ' x', Sx sB τ' x' K1 K2 K3 L w' ∧ Up sB τ τ' w w' := by
  obtain ⟨fl, ff, fm, hk⟩ := h.keep
  exact (keep_old sB x e.src e.id τ fl ff fm _ w h.row hk h.ts hs hi hin).mono fun r w' ⟨h1, h2⟩ => ⟨h1, h.keepStep h2⟩

/-- 'NodeLog.Add', over the set. -/
theorem node_sx (h : Sx sB τ x K1 K2 K3 L w) {e : Ev} (hc : e.clu.size ≤ maxLen) (hs : e.subj.size ≤ maxLen) (hlen : K2.length ≤ 4096) :
    Calls Try.prog 27 #[.pointer (some ⟨sB, 4, none⟩), evtVal e] w fun r w' => r = .returned (.tuple #[]) ∧ ∃ τ' x', Sx sB τ' x' K1 (K2 ++ [e]) K3 L w' ∧ Up sB τ τ' w w' := by
  obtain ⟨fn, hn⟩ := h.nodes
  cases he : isNd e with
  | false =>
    have h12 : (e.typ.toList == kStarted) = false ∧ (e.typ.toList == kStopped) = false := by simpa only [isNd, Bool.or_eq_false_iff] using he
    refine (nodeAdd_none sB e w h12.1 h12.2).mono fun r w' ⟨h1, h2⟩ => ⟨h1, τ, x, ?_, Up.of_below h2⟩
    have g := h.beneath h2
    obtain ⟨fn', hn'⟩ := g.nodes
    refine ⟨g.row, g.ts, g.low, g.keep, ⟨fn', ?_⟩, g.svcs, g.len, ?_⟩
    · rw [nNames_snoc, he]; exact hn'.skip he
    · rw [g.nl, List.countP_append]; simp [he]
  | true =>
    have hcp : K2.countP isNd ≤ 4096 := Nat.le_trans List.countP_le_length hlen
    refine (nodeAdd_any sB x τ fn _ K2 e w h.row hn h.ts hc hs (by rw [h.nl]; omega) (by rw [h.nl]; omega) hlen he).mono fun r w' ⟨h1, h2⟩ => ⟨h1, ?_⟩
    obtain ⟨τ', nm, fn', hr, hn', hst⟩ := h2
    obtain ⟨fl, ff, fm, hk⟩ := h.keep
    obtain ⟨fs, hsv⟩ := h.svcs
    have hlt := h.row.lt
    refine ⟨τ', _, ⟨hr, by rw [hst.tags _ hlt]; exact h.ts, fun k hk => by rw [hst.tags k (by omega)]; exact h.low k hk, ⟨fl, ff, fm, hk.move hst.tags (step_block hst h.ts (fun h => h) (fun _ => apart_nk))⟩,
      ⟨fn', ?_⟩, ⟨fs, hsv.move hst.tags (step_block hst h.ts (fun h => h) (fun _ => apart_ns))⟩, h.len, ?_⟩, Up.of_step hst (fun h => h)⟩
    · rw [nNames_snoc, he]
      simpa using hn'
    · show x.nl + 1 = _
      rw [h.nl, List.countP_append]
      simp [he]

/-- 'ServiceLog.Add', over the set. -/
theorem svc_sx (h : Sx sB τ x K1 K2 K3 L w) {e : Ev} (hs : e.subj.size ≤ maxLen) (hlen : K3.length ≤ 4096) :
    Calls Try.prog 28 #[.pointer (some ⟨sB, 9, none⟩), evtVal e] w fun r w' => r = .returned (.tuple #[]) ∧ ∃ τ' x', Sx sB τ' x' K1 K2 (K3 ++ [e]) L w' ∧ Up sB τ τ' w w' := by
  obtain ⟨fs, hsv⟩ := h.svcs
  obtain ⟨fl, ff, fm, hk⟩ := h.keep
  obtain ⟨fn, hn⟩ := h.nodes
  have hlt := h.row.lt
  have fin : ∀ {n' w'}, n' = nSvcs (K3 ++ [e]) → SvcPost sB x τ n' (K3 ++ [e]) w w' → ∃ τ' x', Sx sB τ' x' K1 K2 (K3 ++ [e]) L w' ∧ Up sB τ τ' w w' := by
    intro n' w' hn' ⟨τ', sm, fs', ex, hr, hsv', hst⟩
    subst hn'
    exact ⟨τ', _, ⟨hr, by rw [hst.tags _ hlt]; exact h.ts, fun k hk => by rw [hst.tags k (by omega)]; exact h.low k hk, ⟨fl, ff, fm, hk.move hst.tags (step_block hst h.ts (fun h => h) (fun _ => apart_sk))⟩,
      ⟨fn, hn.move hst.tags (step_block hst h.ts (fun h => h) (fun _ => apart_sn))⟩, ⟨fs', hsv'⟩, h.len, h.nl⟩, Up.of_step hst (fun h => h)⟩
  cases h1 : e.typ.toList == kDeployed with
  | true => exact (svcAdd_dep sB x τ fs _ K3 e w h.row hsv h.ts hs hlen h1).mono fun r w' ⟨r1, r2⟩ => ⟨r1, fin (by rw [nSvcs_snoc]; simp [isSv, h1]) r2⟩
  | false =>
    cases h2 : e.typ.toList == kInstances with
    | true => exact (svcAdd_ins sB x τ fs _ K3 e w h.row hsv h.ts hs hlen h1 h2).mono fun r w' ⟨r1, r2⟩ => ⟨r1, fin (by rw [nSvcs_snoc]; simp [isSv, h2]) r2⟩
    | false =>
      cases h3 : e.typ.toList == kExecuted with
      | true => exact (svcAdd_ex sB x τ fs _ K3 e w h.row hsv h.ts hlen h1 h2 h3).mono fun r w' ⟨r1, r2⟩ => ⟨r1, fin (by rw [nSvcs_snoc]; simp [isSv, h1, h2]) r2⟩
      | false =>
        refine (svcAdd_none sB e w h1 h2 h3).mono fun r w' ⟨r1, r2⟩ => ⟨r1, τ, x, ?_, Up.of_below r2⟩
        have g := h.beneath r2
        obtain ⟨fs', hs'⟩ := g.svcs
        refine ⟨g.row, g.ts, g.low, g.keep, g.nodes, ⟨fs', ?_⟩, g.len, g.nl⟩
        rw [nSvcs_snoc]
        simpa [isSv, h1, h2] using hs'.skip (e := e) ⟨h3, h1, h2⟩
end
end Go.Proofs.Qxb6603530a
