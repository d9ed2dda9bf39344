import Derived.Test.Qxb6603530aKeep2
namespace Go.Proofs.Qxb6603530a
open Go.ChangeShapes Go.WideShapes Go.ChangeAt Go.RowKit
open MapV


set_option maxRecDepth 100000 in
set_option maxHeartbeats 1000000 in
theorem keep_lone_old (sB : Nat) (x : SV) (s i : ByteArray) (τ : Nat → Tag) (fl ff fm : Value → Option Value) (K : List (ByteArray × ByteArray)) (w : World) (hr : w.rowIs sB 45 11 (sv x)) (hk : Keep τ x.ml x.mf x.mm fl ff fm K w) (ts : τ sB = .other)
    (hs : s.size ≤ maxLen) (hl : fl (.string s) = some (.string i)) (hf : ff (.string s) = none) (hm : fm (.string s) = none) :
    Calls Try.prog 25 #[.pointer (some ⟨sB, 0, none⟩), keyVal s i] w fun e w' => e = .returned (.bool false) ∧ KeepPost sB x τ K w w' := by
  have h0 : Kx w τ x K s i sB w.heap.size (tagAt τ w.heap.size .other) x.ml x.mf x.mm fl ff fm (w.alloc (.cells #[.string s, .string i] 78)) := Kx.start hr hk ts
  unfold keyVal
  go_enter Try.func25, Try.ntmps25
  go_wp2
  obtain ⟨kB, hkB⟩ : ∃ n, n = w.heap.size := ⟨_, rfl⟩
  obtain ⟨W0, hW⟩ : ∃ W, W = w.alloc (.cells #[.string s, .string i] 78) := ⟨_, rfl⟩
  obtain ⟨τ1, hτ1⟩ : ∃ t, t = tagAt τ w.heap.size .other := ⟨_, rfl⟩
  rw [← hW, ← hτ1] at h0
  rw [← hW]
  rw [← hkB] at h0 ⊢
  obtain ⟨ml, hml⟩ : ∃ t, t = x.ml := ⟨_, rfl⟩
  obtain ⟨mf, hmf⟩ : ∃ t, t = x.mf := ⟨_, rfl⟩
  obtain ⟨mm, hmm⟩ : ∃ t, t = x.mm := ⟨_, rfl⟩
  rw [← hml, ← hmf, ← hmm] at h0
  clear hW hkB hr hk hτ1 hml hmf hmm
  have l1 := h0.lookMany hs (v := .tuple #[.map none, .bool false]) (by rw [hm]; rfl)
  obtain ⟨c0, c1, c2, fz, b0, b1⟩ := h0.cells
  go_quiet (fail)
  clear l1 c0 c1 c2 fz b0 b1
  have h1 := h0.drewN nq
  obtain ⟨W1, hW⟩ : ∃ x, x = W0.drewN nq := ⟨_, rfl⟩
  rw [← hW] at h1 ⊢
  clear hW h0
  go_wp2
  have l1 := h1.lookFew hs (v := .tuple #[.slice none 0 0, .bool false]) (by rw [hf]; rfl)
  obtain ⟨c0, c1, c2, fz, b0, b1⟩ := h1.cells
  go_quiet (fail)
  clear l1 c0 c1 c2 fz b0 b1
  have h2 := h1.drewN nq
  obtain ⟨W2, hW⟩ : ∃ x, x = W1.drewN nq := ⟨_, rfl⟩
  rw [← hW] at h2 ⊢
  clear hW h1
  go_wp2
  have l1 := h2.lookLone hs (v := .tuple #[.string i, .bool true]) (by rw [hl]; rfl)
  obtain ⟨c0, c1, c2, fz, b0, b1⟩ := h2.cells
  go_quiet (fail)
  clear l1 c0 c1 c2 fz b0 b1
  have h3 := h2.drewN nq
  obtain ⟨W3, hW⟩ : ∃ x, x = W2.drewN nq := ⟨_, rfl⟩
  rw [← hW] at h3 ⊢
  clear hW h2
  obtain ⟨c0, c1, c2, fz, b0, b1⟩ := h3.cells
  go_wp2
  go_ret
  exact ⟨rfl, h3.same⟩

set_option maxRecDepth 100000 in
set_option maxHeartbeats 1000000 in
theorem keep_lone_new (sB : Nat) (x : SV) (s i : ByteArray) (τ : Nat → Tag) (fl ff fm : Value → Option Value) (K : List (ByteArray × ByteArray)) (w : World) (hr : w.rowIs sB 45 11 (sv x)) (hk : Keep τ x.ml x.mf x.mm fl ff fm K w) (ts : τ sB = .other)
    (hs : s.size ≤ maxLen) (hi : i.size ≤ maxLen) (id0 : ByteArray) (hne : (id0.toList == i.toList) = false) (hl : fl (.string s) = some (.string id0)) (hf : ff (.string s) = none) (hm : fm (.string s) = none) (hids : ids K s = [id0]) :
    Calls Try.prog 25 #[.pointer (some ⟨sB, 0, none⟩), keyVal s i] w fun e w' => e = .returned (.bool true) ∧ KeepPost sB x τ (K ++ [(s, i)]) w w' := by
  have h0 : Kx w τ x K s i sB w.heap.size (tagAt τ w.heap.size .other) x.ml x.mf x.mm fl ff fm (w.alloc (.cells #[.string s, .string i] 78)) := Kx.start hr hk ts
  unfold keyVal
  go_enter Try.func25, Try.ntmps25
  go_wp2
  obtain ⟨kB, hkB⟩ : ∃ n, n = w.heap.size := ⟨_, rfl⟩
  obtain ⟨W0, hW⟩ : ∃ W, W = w.alloc (.cells #[.string s, .string i] 78) := ⟨_, rfl⟩
  obtain ⟨τ1, hτ1⟩ : ∃ t, t = tagAt τ w.heap.size .other := ⟨_, rfl⟩
  rw [← hW, ← hτ1] at h0
  rw [← hW]
  rw [← hkB] at h0 ⊢
  obtain ⟨ml, hml⟩ : ∃ t, t = x.ml := ⟨_, rfl⟩
  obtain ⟨mf, hmf⟩ : ∃ t, t = x.mf := ⟨_, rfl⟩
  obtain ⟨mm, hmm⟩ : ∃ t, t = x.mm := ⟨_, rfl⟩
  rw [← hml, ← hmf, ← hmm] at h0
  clear hW hkB hr hk hτ1 hml hmf hmm
  have l1 := h0.lookMany hs (v := .tuple #[.map none, .bool false]) (by rw [hm]; rfl)
  obtain ⟨c0, c1, c2, fz, b0, b1⟩ := h0.cells
  go_quiet (fail)
  clear l1 c0 c1 c2 fz b0 b1
  have h1 := h0.drewN nq
  obtain ⟨W1, hW⟩ : ∃ x, x = W0.drewN nq := ⟨_, rfl⟩
  rw [← hW] at h1 ⊢
  clear hW h0
  go_wp2
  have l1 := h1.lookFew hs (v := .tuple #[.slice none 0 0, .bool false]) (by rw [hf]; rfl)
  obtain ⟨c0, c1, c2, fz, b0, b1⟩ := h1.cells
  go_quiet (fail)
  clear l1 c0 c1 c2 fz b0 b1
  have h2 := h1.drewN nq
  obtain ⟨W2, hW⟩ : ∃ x, x = W1.drewN nq := ⟨_, rfl⟩
  rw [← hW] at h2 ⊢
  clear hW h1
  go_wp2
  have l1 := h2.lookLone hs (v := .tuple #[.string id0, .bool true]) (by rw [hl]; rfl)
  obtain ⟨c0, c1, c2, fz, b0, b1⟩ := h2.cells
  go_quiet (fail)
  clear l1 c0 c1 c2 fz b0 b1
  have h3 := h2.drewN nq
  obtain ⟨W3, hW⟩ : ∃ x, x = W2.drewN nq := ⟨_, rfl⟩
  rw [← hW] at h3 ⊢
  clear hW h2
  cases ml with
  | none =>
    obtain ⟨n1, m1⟩ := h3.keep.lone
    rw [m1.1] at hl
    cases hl
  | some lb =>
    obtain ⟨n1, m1⟩ := h3.keep.lone
    obtain ⟨c0, c1, c2, fz, b0, b1⟩ := h3.cells
    go_wp2
    have hmv := h3.mv.drew
    clear fz c2
    go_region_held3 (fun w' => w'.cell? ⟨sB, 0, none⟩ = some (.map (some lb)) ∧ w'.cell? ⟨kB, 0, none⟩ = some (.string s))
      (first | exact ⟨k0, k1⟩ | exact ⟨c0, b0⟩) ((refine step_del_hit rfl _ _ 26 9 rfl 9 9 keyed9 Try.underlying26 lb fl n1 rfl (MapF.of_block m1 rfl) (.string s) (.string id0) _ rfl (key9 s hs) hl ?_; intro W4 hm1 ht1; have h4 := hmv.put_lone hm1 ht1; obtain ⟨k0, _, _, _, k1, _⟩ := h4.cells))
    clear hm1 ht1 hmv m1 c0 c1 b0 b1 h3 k0 k1
    cases mf with
    | none =>
      obtain ⟨c0, c1, c2, fz, b0, b1⟩ := h4.cells
      have mk := @run_makeMap Try.prog
      have en := nil27
      have fz0 := fz 1
      have h5 := h4.mk_few
      have a0 := (h4.alloc (.map #[] 0) .other).cells.2.1
      have z0 := (h4.alloc (.map #[] 0) .other).cells.2.2.2.1 1
      clear fz
      go_wp2
      clear a0 z0 fz0 c0 c1 c2 b0 b1 h4 mk en
      obtain ⟨W5, hW⟩ : ∃ x, x = (W4.alloc (.map #[] 0)).setCell ⟨sB, 1, none⟩ (.map (some W4.heap.size)) := ⟨_, rfl⟩
      rw [← hW] at h5 ⊢
      obtain ⟨fb, hfb⟩ : ∃ x, x = W4.heap.size := ⟨_, rfl⟩
      obtain ⟨τ2, hτ2⟩ : ∃ t, t = tagAt τ1 W4.heap.size .few := ⟨_, rfl⟩
      rw [← hτ2, ← hfb] at h5
      clear hW hfb hτ2
      obtain ⟨n2, m2⟩ := h5.few
      have hfb : fb < W5.heap.size := MapF.lt m2
      have kt := h5.ne (b := fb) (by rw [h5.tf fb rfl]; trivial)
      have ha : Mv w τ x K s i sB kB (tagAt τ2 W5.heap.size (.row s)) (some lb) (some fb) mm (upd fl (.string s) none) ff fm (W5.alloc (.cells #[.string id0, .string i] 9)).drew := (h5.alloc _ _).drew
      obtain ⟨w1, hput, hm1, ht1⟩ := MapF.put_new (w := (W5.alloc (.cells #[.string id0, .string i] 9)).drew) keyed9 Try.underlying27 (MapF.of_block m2 (Go.Deep.blk_alloc_lt W5 _ _ hfb)) (key9 s hs) hf (.slice (some ⟨W5.heap.size, 0, none⟩) 2 2)
      obtain ⟨c0, c1, c2, fz, b0, b1⟩ := h5.cells
      obtain ⟨_, a1, _, _, a3, a4⟩ := ha.cells
      have hp := ha.put_few hm1 ht1
      obtain ⟨_, p1, _, _, p3, p4⟩ := hp.cells
      clear fz c0 c2
      go_region_held3 (fun w' => w'.cell? ⟨sB, 1, none⟩ = some (.map (some fb)) ∧ w'.cell? ⟨kB, 0, none⟩ = some (.string s) ∧ w'.cell? ⟨kB, 1, none⟩ = some (.string i))
        (first | exact ⟨c1, b0, b1⟩ | exact ⟨a1, a3, a4⟩ | exact ⟨p1, p3, p4⟩) (fail)
      go_wp2
      go_ret
      have hrow : (W5.alloc (.cells #[.string id0, .string i] 9)).drew.ownsRow 0 9 1 (.slice (some ⟨W5.heap.size, 0, none⟩) 2 2) 2 [.string id0, .string i] := by
        refine ⟨rfl, .inr ⟨W5.heap.size, 2, #[.string id0, .string i], rfl, Nat.zero_le _, ?_, Nat.le_refl _, by decide, rfl, rfl⟩⟩
        exact Go.Deep.blk_alloc_new _ _
      refine ⟨rfl, hp.done hs hi ?_ (.inr ⟨_, upd_same _ _ _, by rw [hids]; simp, by rw [hids]; simp, ?_, fun g' hg' => ?_⟩) ?_⟩
      · rw [upd_same, hids]; rfl
      · rw [hids]
        refine owns_move hrow fun g' hg' => ht1.block g' (fun e => ?_)
        simp only [Value.ownBlock, Option.some.injEq] at hg'
        omega
      · simp only [Value.ownBlock, Option.some.injEq] at hg'
        rw [← hg']
        exact tagAt_same _ _ _
      · left
        exact ⟨hm, by rw [hids]; simp⟩

    | some fb =>
      obtain ⟨c0, c1, c2, fz, b0, b1⟩ := h4.cells
      have en := some27
      go_wp2
      clear c0 c1 c2 fz b0 b1 en
      obtain ⟨n2, m2⟩ := h4.few
      have hfb : fb < W4.heap.size := MapF.lt m2
      have kt := h4.ne (b := fb) (by rw [h4.tf fb rfl]; trivial)
      have ha : Mv w τ x K s i sB kB (tagAt τ1 W4.heap.size (.row s)) (some lb) (some fb) mm (upd fl (.string s) none) ff fm (W4.alloc (.cells #[.string id0, .string i] 9)).drew := (h4.alloc _ _).drew
      obtain ⟨w1, hput, hm1, ht1⟩ := MapF.put_new (w := (W4.alloc (.cells #[.string id0, .string i] 9)).drew) keyed9 Try.underlying27 (MapF.of_block m2 (Go.Deep.blk_alloc_lt W4 _ _ hfb)) (key9 s hs) hf (.slice (some ⟨W4.heap.size, 0, none⟩) 2 2)
      obtain ⟨c0, c1, c2, fz, b0, b1⟩ := h4.cells
      obtain ⟨_, a1, _, _, a3, a4⟩ := ha.cells
      have hp := ha.put_few hm1 ht1
      obtain ⟨_, p1, _, _, p3, p4⟩ := hp.cells
      clear fz c0 c2
      go_region_held3 (fun w' => w'.cell? ⟨sB, 1, none⟩ = some (.map (some fb)) ∧ w'.cell? ⟨kB, 0, none⟩ = some (.string s) ∧ w'.cell? ⟨kB, 1, none⟩ = some (.string i))
        (first | exact ⟨c1, b0, b1⟩ | exact ⟨a1, a3, a4⟩ | exact ⟨p1, p3, p4⟩) (fail)
      go_wp2
      go_ret
      have hrow : (W4.alloc (.cells #[.string id0, .string i] 9)).drew.ownsRow 0 9 1 (.slice (some ⟨W4.heap.size, 0, none⟩) 2 2) 2 [.string id0, .string i] := by
        refine ⟨rfl, .inr ⟨W4.heap.size, 2, #[.string id0, .string i], rfl, Nat.zero_le _, ?_, Nat.le_refl _, by decide, rfl, rfl⟩⟩
        exact Go.Deep.blk_alloc_new _ _
      refine ⟨rfl, hp.done hs hi ?_ (.inr ⟨_, upd_same _ _ _, by rw [hids]; simp, by rw [hids]; simp, ?_, fun g' hg' => ?_⟩) ?_⟩
      · rw [upd_same, hids]; rfl
      · rw [hids]
        refine owns_move hrow fun g' hg' => ht1.block g' (fun e => ?_)
        simp only [Value.ownBlock, Option.some.injEq] at hg'
        omega
      · simp only [Value.ownBlock, Option.some.injEq] at hg'
        rw [← hg']
        exact tagAt_same _ _ _
      · left
        exact ⟨hm, by rw [hids]; simp⟩

end Go.Proofs.Qxb6603530a
