import Derived.Test.Qxb6603530aSvc
namespace Go.Proofs.Qxb6603530a
open Go.ChangeShapes Go.WideShapes Go.ChangeAt Go.RowKit
open MapV

theorem nil40 (w : World) : (binOp .eql 40 (.map none) (.map none)).run Try.prog w = .ok (.bool true) w := by kernel_rfl
theorem some40 (b : Nat) (w : World) : (binOp .eql 40 (.map (some b)) (.map none)).run Try.prog w = .ok (.bool false) w := by kernel_rfl

/-- One more, where there was none. -/
def nextN (c n : Nat) : Nat := if c = 0 then n + 1 else n

/-- What 'service' hands back. -/
def ServPost (w : World) (τ0 : Nat → Tag) (x : SV) (K : List Ev) (s : ByteArray) (sB : Nat) (τ : Nat → Tag) (n' : Nat) (W : World) (hb : Nat) (W' : World) : Prop :=
  ∃ τ' sm fs v1 v2, SM w τ0 x K s sB τ' sm fs n' W' ∧ fs (.string s) = some (.pointer (some ⟨hb, 0, none⟩)) ∧ Hist τ' hb s (nDep K s) (nIns K s) v1 v2 W' ∧ (∀ k, k < W.heap.size → τ' k = τ k) ∧ ∀ k, k < W.heap.size → k ≠ sB → ¬ (τ k).isSvc → W'.heap[k]? = W.heap[k]?

section
variable {w : World} {τ0 : Nat → Tag} {x : SV} {K : List Ev} {s : ByteArray} {sB : Nat} {τ : Nat → Tag} {sm : Option Nat} {fs : Value → Option Value} {n : Nat} {W : World}
theorem SM.look (h : SM w τ0 x K s sB τ sm fs n W) (hs : s.size ≤ maxLen) {v : Value} (hv : got true (.pointer none) (fs (.string s)) = v) :
    (Instr.lookup 40 (.map sm) (.string s) true).run Try.prog W = .ok v W := by
  subst hv
  exact MapO.look keyed9 Try.underlying40 h.map (key9 s hs) (zero84 _) true
theorem SM.cell9 (h : SM w τ0 x K s sB τ sm fs n W) : W.cell? ⟨sB, 9, none⟩ = some (.map sm) ∧ W.frozen? ⟨sB, 9, none⟩ = false := ⟨h.row.cell (i := 9) (by omega), h.row.frozen 9⟩

set_option maxRecDepth 100000 in
theorem service_old {hb : Nat} {v1 v2 : Value} (h : SM w τ0 x K s sB τ sm fs n W) (hs : s.size ≤ maxLen) (hf : fs (.string s) = some (.pointer (some ⟨hb, 0, none⟩))) (hh : Hist τ hb s (nDep K s) (nIns K s) v1 v2 W) :
    Calls Try.prog 34 #[.pointer (some ⟨sB, 9, none⟩), .string s] W fun r W' => r = .returned (.pointer (some ⟨hb, 0, none⟩)) ∧ ServPost w τ0 x K s sB τ n W hb W' := by
  have l1 := h.look hs (v := .tuple #[.pointer (some ⟨hb, 0, none⟩), .bool true]) (by rw [hf]; rfl)
  obtain ⟨c9, z9⟩ := h.cell9
  go_enter Try.func34, Try.ntmps34
  go_wp2
  go_ret
  exact ⟨rfl, τ, sm, fs, v1, v2, h, hf, hh, fun _ _ => rfl, fun _ _ _ _ => rfl⟩

theorem hist_new {W1 W' : World} {b : Nat} (hd : nDep K s = 0) (hi : nIns K s = 0) (ht : Turned b (W1.alloc (.cells #[.slice none 0 0, .slice none 0 0] 89)) W') (hb : b < W1.heap.size) (htg : τ W1.heap.size = .svc s) : Hist τ W1.heap.size s (nDep K s) (nIns K s) (.slice none 0 0) (.slice none 0 0) W' := by
  rw [hd, hi]
  exact ⟨htg, (World.rowIs_alloc W1 #[.slice none 0 0, .slice none 0 0] 89 (hv (.slice none 0 0) (.slice none 0 0)) (fun i hi => match i, hi with | 0, _ => rfl | 1, _ => rfl)).of_block (ht.block _ (by omega)),
    ⟨[], World.ownsRow_nil _ _ _ _⟩, fun g hg => by simp [Value.ownBlock] at hg, ⟨[], World.ownsRow_nil _ _ _ _⟩, fun g hg => by simp [Value.ownBlock] at hg⟩

set_option maxRecDepth 100000 in
theorem service_new {b : Nat} (h : SM w τ0 x K s sB τ (some b) fs n W) (hs : s.size ≤ maxLen) (hf : fs (.string s) = none) (hd : nDep K s = 0) (hi : nIns K s = 0) :
    Calls Try.prog 34 #[.pointer (some ⟨sB, 9, none⟩), .string s] W fun r W' => r = .returned (.pointer (some ⟨W.heap.size, 0, none⟩)) ∧ ServPost w τ0 x K s sB τ (n + 1) W W.heap.size W' := by
  have l1 := h.look hs (v := .tuple #[.pointer none, .bool false]) (by rw [hf]; rfl)
  obtain ⟨c9, z9⟩ := h.cell9
  have en := some40
  have hbl : b < W.heap.size := MapF.lt h.map
  have h1 := h.alloc (.cells #[.slice none 0 0, .slice none 0 0] 89) (.svc s)
  obtain ⟨a9, _⟩ := h1.cell9
  obtain ⟨W', hput, hm, ht⟩ := MapF.put_new keyed9 Try.underlying40 h1.map (key9 s hs) hf (.pointer (some ⟨W.heap.size, 0, none⟩))
  have h2 := h1.put hm ht
  have hh := hist_new (τ := tagAt τ W.heap.size (.svc s)) hd hi ht hbl (tagAt_same _ _ _)
  have hsv : (tagAt τ W.heap.size (.svc s) b).isSvc := by rw [h1.tag b rfl]; trivial
  have hfin : ServPost w τ0 x K s sB τ (n + 1) W W.heap.size W' := ⟨_, _, _, _, _, h2, upd_same _ _ _, hh, fun k hk => tagAt_other _ _ (by omega), fun k hk _ hns => by
    rw [ht.block k (fun e => hns (by rw [e, ← tagAt_other τ (.svc s) (show b ≠ W.heap.size by omega)]; exact hsv))]
    exact Go.Deep.blk_alloc_lt _ _ _ hk⟩
  have HF : Hid (ServPost w τ0 x K s sB τ (n + 1) W W.heap.size W') := hfin
  clear hfin h2 hh h1 hm ht hsv
  go_enter Try.func34, Try.ntmps34
  go_wp2
  go_ret
  exact ⟨rfl, HF.out⟩

set_option maxRecDepth 100000 in
theorem service_nil (h : SM w τ0 x K s sB τ none fs n W) (hs : s.size ≤ maxLen) (hf : fs (.string s) = none) (hd : nDep K s = 0) (hi : nIns K s = 0) :
    Calls Try.prog 34 #[.pointer (some ⟨sB, 9, none⟩), .string s] W fun r W' => r = .returned (.pointer (some ⟨W.heap.size + 1, 0, none⟩)) ∧ ServPost w τ0 x K s sB τ (n + 1) W (W.heap.size + 1) W' := by
  have l1 := h.look hs (v := .tuple #[.pointer none, .bool false]) (by rw [hf]; rfl)
  obtain ⟨c9, z9⟩ := h.cell9
  have en := nil40
  have mk := @run_makeMap Try.prog
  obtain ⟨e9, ez9⟩ := (h.alloc (.map #[] 0) .other).cell9
  have h0 := h.mkSvcs
  have hsz : ((W.alloc (.map #[] 0)).setCell ⟨sB, 9, none⟩ (.map (some W.heap.size))).heap.size = W.heap.size + 1 := by simp [World.setCell]
  obtain ⟨d9, _⟩ := h0.cell9
  have hbl := MapF.lt h0.map
  have h1 := h0.alloc (.cells #[.slice none 0 0, .slice none 0 0] 89) (.svc s)
  obtain ⟨a9, _⟩ := h1.cell9
  obtain ⟨W', hput, hm, ht⟩ := MapF.put_new keyed9 Try.underlying40 h1.map (key9 s hs) hf (.pointer (some ⟨W.heap.size + 1, 0, none⟩))
  have h2 := h1.put hm ht
  have hh := hist_new (K := K) (s := s) (τ := tagAt (tagAt τ W.heap.size .svcs) ((W.alloc (.map #[] 0)).setCell ⟨sB, 9, none⟩ (.map (some W.heap.size))).heap.size (.svc s)) hd hi ht hbl (tagAt_same _ _ _)
  rw [hsz] at hh h2
  have hfin : ServPost w τ0 x K s sB τ (n + 1) W (W.heap.size + 1) W' := ⟨_, _, _, _, _, h2, upd_same _ _ _, hh, fun k hk => by rw [tagAt_other _ _ (by omega), tagAt_other _ _ (by omega)], fun k hk hne hns => by
    rw [ht.block k (by omega), Go.Deep.blk_alloc_lt _ _ _ (by omega), Go.Deep.blk_setCell_other _ _ _ _ hne, Go.Deep.blk_alloc_lt _ _ _ hk]⟩
  have HF : Hid (ServPost w τ0 x K s sB τ (n + 1) W (W.heap.size + 1) W') := hfin
  clear hfin h2 hh h1 hm ht h0 hbl hsz
  go_enter Try.func34, Try.ntmps34
  go_wp2
  go_ret
  exact ⟨rfl, HF.out⟩

/-- Whatever the map holds. -/
theorem service_any (h : SM w τ0 x K s sB τ sm fs n W) (hat : SvcAt τ (fs (.string s)) s (nDep K s) (nIns K s) W) (hs : s.size ≤ maxLen) :
    Calls Try.prog 34 #[.pointer (some ⟨sB, 9, none⟩), .string s] W fun r W' => ∃ hb, r = .returned (.pointer (some ⟨hb, 0, none⟩)) ∧ ServPost w τ0 x K s sB τ (nextN (nDep K s + nIns K s) n) W hb W' := by
  rcases hat with ⟨hf, hd, hi⟩ | ⟨hb, v1, v2, hf, hpos, hh⟩
  · rw [nextN, if_pos (by omega)]
    cases sm with
    | none => exact (service_nil h hs hf hd hi).mono fun r W' ⟨h1, h2⟩ => ⟨_, h1, h2⟩
    | some b => exact (service_new h hs hf hd hi).mono fun r W' ⟨h1, h2⟩ => ⟨_, h1, h2⟩
  · rw [nextN, if_neg (by omega)]
    exact (service_old h hs hf hh).mono fun r W' ⟨h1, h2⟩ => ⟨_, h1, h2⟩
end
end Go.Proofs.Qxb6603530a
