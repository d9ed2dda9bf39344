import Derived.Test.Qxb6603530aKeep
namespace Go.Proofs.Qxb6603530a
open Go.ChangeShapes Go.WideShapes Go.ChangeAt Go.RowKit
open MapV

theorem lone_long {l : List ByteArray} {i : ByteArray} (h : 2 ≤ l.length) : loneOf l = loneOf (l ++ [i]) := by
  match l, h with
  | [_], h => simp at h
  | _ :: _ :: _, _ => rfl

set_option maxRecDepth 100000 in
set_option maxHeartbeats 1000000 in
theorem keep_lone (sB : Nat) (x : SV) (s i : ByteArray) (τ : Nat → Tag) (fl ff fm : Value → Option Value) (K : List (ByteArray × ByteArray)) (w : World) (hr : w.rowIs sB 45 11 (sv x)) (hk : Keep τ x.ml x.mf x.mm fl ff fm K w) (ts : τ sB = .other)
    (hs : s.size ≤ maxLen) (hi : i.size ≤ maxLen) (hl : fl (.string s) = none) (hf : ff (.string s) = none) (hm : fm (.string s) = none) (hids : ids K s = []) :
    Calls Try.prog 25 #[.pointer (some ⟨sB, 0, none⟩), keyVal s i] w fun e w' => e = .returned (.bool true) ∧ KeepPost sB x τ (K ++ [(s, i)]) w w' := by
  have h0 : Kx w τ x K s i sB w.heap.size (tagAt τ w.heap.size .other) x.ml x.mf x.mm fl ff fm (w.alloc (.cells #[.string s, .string i] 78)) := Kx.start hr hk ts
  unfold keyVal
  go_enter Try.func25, Try.ntmps25
  go_wp2
  obtain ⟨kB, hkB⟩ : ∃ n, n = w.heap.size := ⟨_, rfl⟩
  obtain ⟨W0, hW⟩ : ∃ W, W = w.alloc (.cells #[.string s, .string i] 78) := ⟨_, rfl⟩
  obtain ⟨τ1, hτ1⟩ : ∃ t, t = tagAt τ w.heap.size .other := ⟨_, rfl⟩
  rw [← hW, ← hτ1] at h0
  rw [← hW]
  rw [← hkB] at h0 ⊢
  obtain ⟨ml, hml⟩ : ∃ t, t = x.ml := ⟨_, rfl⟩
  obtain ⟨mf, hmf⟩ : ∃ t, t = x.mf := ⟨_, rfl⟩
  obtain ⟨mm, hmm⟩ : ∃ t, t = x.mm := ⟨_, rfl⟩
  rw [← hml, ← hmf, ← hmm] at h0
  clear hW hkB hr hk hτ1 hml hmf hmm
  have l1 := h0.lookMany hs (v := .tuple #[.map none, .bool false]) (by rw [hm]; rfl)
  obtain ⟨c0, c1, c2, fz, b0, b1⟩ := h0.cells
  go_quiet (fail)
  clear l1 c0 c1 c2 fz b0 b1
  have h1 := h0.drewN nq
  obtain ⟨W1, hW⟩ : ∃ x, x = W0.drewN nq := ⟨_, rfl⟩
  rw [← hW] at h1 ⊢
  clear hW h0
  go_wp2
  have l1 := h1.lookFew hs (v := .tuple #[.slice none 0 0, .bool false]) (by rw [hf]; rfl)
  obtain ⟨c0, c1, c2, fz, b0, b1⟩ := h1.cells
  go_quiet (fail)
  clear l1 c0 c1 c2 fz b0 b1
  have h2 := h1.drewN nq
  obtain ⟨W2, hW⟩ : ∃ x, x = W1.drewN nq := ⟨_, rfl⟩
  rw [← hW] at h2 ⊢
  clear hW h1
  go_wp2
  have l1 := h2.lookLone hs (v := .tuple #[.string ⟨#[]⟩, .bool false]) (by rw [hl]; rfl)
  obtain ⟨c0, c1, c2, fz, b0, b1⟩ := h2.cells
  go_quiet (fail)
  clear l1 c0 c1 c2 fz b0 b1
  have h3 := h2.drewN nq
  obtain ⟨W3, hW⟩ : ∃ x, x = W2.drewN nq := ⟨_, rfl⟩
  rw [← hW] at h3 ⊢
  clear hW h2
  cases ml with
  | none =>
    have mk := @run_makeMap Try.prog
    have en := nil26
    obtain ⟨c0, c1, c2, fz, b0, b1⟩ := h3.cells
    have fz0 := fz 0
    have h4 := h3.mkLone
    have a0 := (h3.alloc (.map #[] 0)).cells.1
    have z0 := (h3.alloc (.map #[] 0)).cells.2.2.2.1 0
    clear fz
    go_wp2
    clear a0 z0 fz0 c0 c1 c2 b0 b1 h3
    obtain ⟨W4, hW⟩ : ∃ x, x = (W3.alloc (.map #[] 0)).setCell ⟨sB, 0, none⟩ (.map (some W3.heap.size)) := ⟨_, rfl⟩
    rw [← hW] at h4 ⊢
    obtain ⟨mb, hmb⟩ : ∃ x, x = W3.heap.size := ⟨_, rfl⟩
    rw [← hmb] at h4
    clear hW hmb
    obtain ⟨n1, m1⟩ := h4.keep.lone
    have kt := h4.ne (b := mb) (by rw [h4.keep.tl mb rfl]; trivial)
    obtain ⟨w1, hput, hm1, ht1⟩ := MapF.put_new (w := W4.drew) keyed9 Try.underlying26 (MapF.of_block m1 rfl) (key9 s hs) hl (.string i)
    obtain ⟨c0, c1, c2, fz, b0, b1⟩ := h4.cells
    have k0 := (ht1.cell (p := ⟨sB, 0, none⟩) (fun e => kt.1 e.symm)).trans c0
    have k1 := (ht1.cell (p := ⟨kB, 0, none⟩) (fun e => kt.2 e.symm)).trans b0
    have k2 := (ht1.cell (p := ⟨kB, 1, none⟩) (fun e => kt.2 e.symm)).trans b1
    clear fz c1 c2
    go_region_held3 (fun w' => w'.cell? ⟨sB, 0, none⟩ = some (.map (some mb)) ∧ w'.cell? ⟨kB, 0, none⟩ = some (.string s) ∧ w'.cell? ⟨kB, 1, none⟩ = some (.string i))
      (first | exact ⟨k0, k1, k2⟩ | exact ⟨c0, b0, b1⟩) (fail)
    go_wp2
    go_ret
    exact ⟨rfl, h4.endLone hids hs hi hm1 (turned_undrew ht1)⟩
  
  | some mb =>
    have en := some26
    obtain ⟨c0, c1, c2, fz, b0, b1⟩ := h3.cells
    go_wp2
    clear c0 c1 c2 fz b0 b1
    obtain ⟨n1, m1⟩ := h3.keep.lone
    have kt := h3.ne (b := mb) (by rw [h3.keep.tl mb rfl]; trivial)
    obtain ⟨w1, hput, hm1, ht1⟩ := MapF.put_new (w := W3.drew) keyed9 Try.underlying26 (MapF.of_block m1 rfl) (key9 s hs) hl (.string i)
    obtain ⟨c0, c1, c2, fz, b0, b1⟩ := h3.cells
    have k0 := (ht1.cell (p := ⟨sB, 0, none⟩) (fun e => kt.1 e.symm)).trans c0
    have k1 := (ht1.cell (p := ⟨kB, 0, none⟩) (fun e => kt.2 e.symm)).trans b0
    have k2 := (ht1.cell (p := ⟨kB, 1, none⟩) (fun e => kt.2 e.symm)).trans b1
    clear fz c1 c2
    go_region_held3 (fun w' => w'.cell? ⟨sB, 0, none⟩ = some (.map (some mb)) ∧ w'.cell? ⟨kB, 0, none⟩ = some (.string s) ∧ w'.cell? ⟨kB, 1, none⟩ = some (.string i))
      (first | exact ⟨k0, k1, k2⟩ | exact ⟨c0, b0, b1⟩) (fail)
    go_wp2
    go_ret
    exact ⟨rfl, h3.endLone hids hs hi hm1 (turned_undrew ht1)⟩
  
set_option maxRecDepth 100000 in
set_option maxHeartbeats 1000000 in
theorem keep_many_old (sB : Nat) (x : SV) (s i : ByteArray) (τ : Nat → Tag) (fl ff fm : Value → Option Value) (K : List (ByteArray × ByteArray)) (w : World) (hr : w.rowIs sB 45 11 (sv x)) (hk : Keep τ x.ml x.mf x.mm fl ff fm K w) (ts : τ sB = .other)
    (hs : s.size ≤ maxLen) (hi : i.size ≤ maxLen) (b : Nat) (hm : fm (.string s) = some (.map (some b))) (hin : i ∈ ids K s) :
    Calls Try.prog 25 #[.pointer (some ⟨sB, 0, none⟩), keyVal s i] w fun e w' => e = .returned (.bool false) ∧ KeepPost sB x τ K w w' := by
  have h0 : Kx w τ x K s i sB w.heap.size (tagAt τ w.heap.size .other) x.ml x.mf x.mm fl ff fm (w.alloc (.cells #[.string s, .string i] 78)) := Kx.start hr hk ts
  unfold keyVal
  go_enter Try.func25, Try.ntmps25
  go_wp2
  obtain ⟨kB, hkB⟩ : ∃ n, n = w.heap.size := ⟨_, rfl⟩
  obtain ⟨W0, hW⟩ : ∃ W, W = w.alloc (.cells #[.string s, .string i] 78) := ⟨_, rfl⟩
  obtain ⟨τ1, hτ1⟩ : ∃ t, t = tagAt τ w.heap.size .other := ⟨_, rfl⟩
  rw [← hW, ← hτ1] at h0
  rw [← hW]
  rw [← hkB] at h0 ⊢
  obtain ⟨ml, hml⟩ : ∃ t, t = x.ml := ⟨_, rfl⟩
  obtain ⟨mf, hmf⟩ : ∃ t, t = x.mf := ⟨_, rfl⟩
  obtain ⟨mm, hmm⟩ : ∃ t, t = x.mm := ⟨_, rfl⟩
  rw [← hml, ← hmf, ← hmm] at h0
  clear hW hkB hr hk hτ1 hml hmf hmm
  have l1 := h0.lookMany hs (v := .tuple #[.map (some b), .bool true]) (by rw [hm]; rfl)
  obtain ⟨c0, c1, c2, fz, b0, b1⟩ := h0.cells
  go_quiet (fail)
  clear l1 c0 c1 c2 fz b0 b1
  have h1 := h0.drewN nq
  obtain ⟨W1, hW⟩ : ∃ x, x = W0.drewN nq := ⟨_, rfl⟩
  rw [← hW] at h1 ⊢
  clear hW h0
  have hset : SetIs W1 b (ids K s) := by
    rcases h1.keep.hm s with ⟨e, _⟩ | ⟨b', e, _, hset, _⟩
    · rw [hm] at e; cases e
    · rw [hm] at e; injection e with e; injection e with e; injection e with e; subst e; exact hset
  obtain ⟨f, m, hf1, hf2⟩ := hset
  have l2 : (Instr.lookup 73 (.map (some b)) (.string i) true).run Try.prog W1 = .ok (.tuple #[.agg #[], .bool true]) W1 := by
    have := hf1.look keyed9 Try.underlying73 (key9 i hi) (zero30 W1) true
    rw [(hf2 i).1 hin] at this
    exact this
  obtain ⟨c0, c1, c2, fz, b0, b1⟩ := h1.cells
  go_wp2
  go_ret
  exact ⟨rfl, (h1.alloc _).same⟩

set_option maxRecDepth 100000 in
set_option maxHeartbeats 1000000 in
theorem keep_many_new (sB : Nat) (x : SV) (s i : ByteArray) (τ : Nat → Tag) (fl ff fm : Value → Option Value) (K : List (ByteArray × ByteArray)) (w : World) (hr : w.rowIs sB 45 11 (sv x)) (hk : Keep τ x.ml x.mf x.mm fl ff fm K w) (ts : τ sB = .other)
    (hs : s.size ≤ maxLen) (hi : i.size ≤ maxLen) (b : Nat) (hm : fm (.string s) = some (.map (some b))) (hin : i ∉ ids K s) :
    Calls Try.prog 25 #[.pointer (some ⟨sB, 0, none⟩), keyVal s i] w fun e w' => e = .returned (.bool true) ∧ KeepPost sB x τ (K ++ [(s, i)]) w w' := by
  have h0 : Kx w τ x K s i sB w.heap.size (tagAt τ w.heap.size .other) x.ml x.mf x.mm fl ff fm (w.alloc (.cells #[.string s, .string i] 78)) := Kx.start hr hk ts
  unfold keyVal
  go_enter Try.func25, Try.ntmps25
  go_wp2
  obtain ⟨kB, hkB⟩ : ∃ n, n = w.heap.size := ⟨_, rfl⟩
  obtain ⟨W0, hW⟩ : ∃ W, W = w.alloc (.cells #[.string s, .string i] 78) := ⟨_, rfl⟩
  obtain ⟨τ1, hτ1⟩ : ∃ t, t = tagAt τ w.heap.size .other := ⟨_, rfl⟩
  rw [← hW, ← hτ1] at h0
  rw [← hW]
  rw [← hkB] at h0 ⊢
  obtain ⟨ml, hml⟩ : ∃ t, t = x.ml := ⟨_, rfl⟩
  obtain ⟨mf, hmf⟩ : ∃ t, t = x.mf := ⟨_, rfl⟩
  obtain ⟨mm, hmm⟩ : ∃ t, t = x.mm := ⟨_, rfl⟩
  rw [← hml, ← hmf, ← hmm] at h0
  clear hW hkB hr hk hτ1 hml hmf hmm
  have l1 := h0.lookMany hs (v := .tuple #[.map (some b), .bool true]) (by rw [hm]; rfl)
  obtain ⟨c0, c1, c2, fz, b0, b1⟩ := h0.cells
  go_quiet (fail)
  clear l1 c0 c1 c2 fz b0 b1
  have h1 := h0.drewN nq
  obtain ⟨W1, hW⟩ : ∃ x, x = W0.drewN nq := ⟨_, rfl⟩
  rw [← hW] at h1 ⊢
  clear hW h0
  have hset : 8 < (ids K s).length ∧ SetIs W1 b (ids K s) ∧ τ1 b = .set s := by
    rcases h1.keep.hm s with ⟨e, _⟩ | ⟨b', e, hl, hset, htg⟩
    · rw [hm] at e; cases e
    · rw [hm] at e; injection e with e; injection e with e; injection e with e; subst e; exact ⟨hl, hset, htg⟩
  obtain ⟨hlen, ⟨f, m, hf1, hf2⟩, htg⟩ := hset
  have l2 : (Instr.lookup 73 (.map (some b)) (.string i) true).run Try.prog W1 = .ok (.tuple #[.agg #[], .bool false]) W1 := by
    have := hf1.look keyed9 Try.underlying73 (key9 i hi) (zero30 W1) true
    rw [(hf2 i).2 hin] at this
    exact this
  obtain ⟨c0, c1, c2, fz, b0, b1⟩ := h1.cells
  have bb1 := fun o => (h1.alloc o).b1
  have hw := fun o => hf1.of_block (w' := W1.alloc o) (Go.Deep.blk_alloc_lt _ _ _ hf1.lt)
  go_wp2_with (at_mapUpdate; refine wpList_put_new rfl _ _ _ 73 rfl 9 30 keyed9 Try.underlying73 b f m rfl (hw _) (.string i) (.agg #[]) _ rfl rfl (key9 i hi) ((hf2 i).2 hin) ?_; intro w1 hm1 ht1)
  go_ret
  have hlt := hf1.lt
  have hkp : (τ1 b).isKeep := by rw [htg]; trivial
  have hmv : Mv w τ x K s i sB kB τ1 ml mf mm fl ff fm w1 := ((h1.alloc _).mv).touch (fun _ _ => rfl) (fun k hk _ e => ht1.block k (fun e2 => e (e2 ▸ htg))) ((h1.alloc _).fr.turned ht1 ((h1.alloc (.map #[] 0)).may hkp)) (by rw [ht1.size]; exact Nat.le_refl _)
  refine ⟨rfl, hmv.done hs hi ?_ ?_ (.inr ⟨b, hm, by simp; omega, ⟨_, _, hm1, fun j => ?_⟩, htg⟩)⟩
  · have := h1.keep.hl s
    rw [this]
    exact lone_long (by omega)
  · left
    rcases h1.keep.hf s with ⟨e, _⟩ | ⟨v, _, _, h1, _⟩
    · exact ⟨e, by simp; omega⟩
    · omega
  · by_cases e : j = i
    · subst e
      rw [upd_same]
      simp
    · rw [upd_other _ _ (by simpa using e)]
      simp only [List.mem_append, List.mem_singleton, e, or_false]
      exact hf2 j

end Go.Proofs.Qxb6603530a
