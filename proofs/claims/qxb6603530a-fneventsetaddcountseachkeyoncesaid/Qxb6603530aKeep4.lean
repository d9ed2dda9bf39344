import Derived.Test.Qxb6603530aKeep3
namespace Go.Proofs.Qxb6603530a
open Go.ChangeShapes Go.WideShapes Go.ChangeAt Go.RowKit
open MapV


theorem row_cell {w : World} {g : Nat} {v : Value} {L : List ByteArray} {n cap : Nat} (h : w.ownsRow 0 9 1 v n (L.map Value.string)) (hv : v = .slice (some ⟨g, 0, none⟩) n cap) {k : Nat} {u : ByteArray} (hu : L[k]? = some u) : w.cell? ⟨g, k, none⟩ = some (.string u) := by
  have := h.cells (g := g) (by rw [hv]; rfl) k (.string u) (by rw [List.getElem?_map, hu]; rfl)
  have hadd : (⟨g, 0, none⟩ : Addr).add k = ⟨g, k, none⟩ := by unfold Addr.add; split <;> simp_all
  rwa [hadd] at this

theorem Mv.grown {w : World} {τ0 : Nat → Tag} {x : SV} {K : List (ByteArray × ByteArray)} {s i : ByteArray} {sB kB : Nat} {τ : Nat → Tag} {ml mf mm : Option Nat} {fl ff fm : Value → Option Value} {W W1 : World} {g gg : Nat} (h : Mv w τ0 x K s i sB kB τ ml mf mm fl ff fm W) (htg : τ g = .row s) (hg : W.grownBy W1 (some g)) (hat : some g = some gg ∨ gg = W.heap.size) :
    Mv w τ0 x K s i sB kB (tagAt τ gg (.row s)) ml mf mm fl ff fm W1 := by
  refine h.touch (fun k hk => ?_) (fun k hk e _ => hg.block k hk (fun e2 => e (by injection e2 with e2; rw [e2]; exact htg))) (h.fr.grown hg (fun k e => by injection e with e; subst e; exact h.may (by rw [htg]; trivial))) hg.size
  by_cases e : k = gg
  · subst e
    rcases hat with e | e
    · injection e with e; subst e; rw [tagAt_same, htg]
    · omega
  · exact tagAt_other _ _ e

set_option maxRecDepth 100000 in
set_option maxHeartbeats 1000000 in
theorem keep_few_old (sB : Nat) (x : SV) (s i : ByteArray) (τ : Nat → Tag) (fl ff fm : Value → Option Value) (K : List (ByteArray × ByteArray)) (w : World) (hr : w.rowIs sB 45 11 (sv x)) (hk : Keep τ x.ml x.mf x.mm fl ff fm K w) (ts : τ sB = .other)
    (hs : s.size ≤ maxLen) (g l cap : Nat) (hf : ff (.string s) = some (.slice (some ⟨g, 0, none⟩) l cap)) (hm : fm (.string s) = none) (hL : Hid ((ids K s).length = l)) (hin : Hid (i ∈ ids K s)) :
    Calls Try.prog 25 #[.pointer (some ⟨sB, 0, none⟩), keyVal s i] w fun e w' => e = .returned (.bool false) ∧ KeepPost sB x τ K w w' := by
  have h0 : Kx w τ x K s i sB w.heap.size (tagAt τ w.heap.size .other) x.ml x.mf x.mm fl ff fm (w.alloc (.cells #[.string s, .string i] 78)) := Kx.start hr hk ts
  unfold keyVal
  go_enter Try.func25, Try.ntmps25
  go_wp2
  obtain ⟨kB, hkB⟩ : ∃ n, n = w.heap.size := ⟨_, rfl⟩
  obtain ⟨W0, hW⟩ : ∃ W, W = w.alloc (.cells #[.string s, .string i] 78) := ⟨_, rfl⟩
  obtain ⟨τ1, hτ1⟩ : ∃ t, t = tagAt τ w.heap.size .other := ⟨_, rfl⟩
  rw [← hW, ← hτ1] at h0
  rw [← hW]
  rw [← hkB] at h0 ⊢
  obtain ⟨ml, hml⟩ : ∃ t, t = x.ml := ⟨_, rfl⟩
  obtain ⟨mf, hmf⟩ : ∃ t, t = x.mf := ⟨_, rfl⟩
  obtain ⟨mm, hmm⟩ : ∃ t, t = x.mm := ⟨_, rfl⟩
  rw [← hml, ← hmf, ← hmm] at h0
  clear hW hkB hr hk hτ1 hml hmf hmm
  have l1 := h0.lookMany hs (v := .tuple #[.map none, .bool false]) (by rw [hm]; rfl)
  obtain ⟨c0, c1, c2, fz, b0, b1⟩ := h0.cells
  go_quiet (fail)
  clear l1 c0 c1 c2 fz b0 b1
  have h1 := h0.drewN nq
  obtain ⟨W1, hW⟩ : ∃ x, x = W0.drewN nq := ⟨_, rfl⟩
  rw [← hW] at h1 ⊢
  clear hW h0
  go_wp2
  have l1 := h1.lookFew hs (v := .tuple #[.slice (some ⟨g, 0, none⟩) l cap, .bool true]) (by rw [hf]; rfl)
  obtain ⟨c0, c1, c2, fz, b0, b1⟩ := h1.cells
  go_quiet (fail)
  clear l1 c0 c1 c2 fz b0 b1
  have h2 := h1.drewN nq
  obtain ⟨W2, hW⟩ : ∃ x, x = W1.drewN nq := ⟨_, rfl⟩
  rw [← hW] at h2 ⊢
  clear hW h1
  have hfew : 2 ≤ l ∧ l ≤ 8 ∧ W2.ownsRow 0 9 1 (.slice (some ⟨g, 0, none⟩) l cap) l ((ids K s).map Value.string) ∧ τ1 g = .row s := by
    rcases h2.keep.hf s with ⟨e, _⟩ | ⟨v, e, e1, e2, e3, e4⟩
    · rw [hf] at e; cases e
    · rw [hf] at e; injection e with e; subst e
      rw [hL.out] at e1 e2 e3
      exact ⟨e1, e2, e3, e4 g rfl⟩
  obtain ⟨hl2, hl8, hrow, htg⟩ := hfew
  have RR : Hid (W2.ownsRow 0 9 1 (.slice (some ⟨g, 0, none⟩) l cap) l ((ids K s).map Value.string)) := hrow
  clear hrow
  obtain ⟨c0, c1, c2, fz, b0, b1⟩ := h2.cells
  clear c0 c1 c2 fz
  have hnil : (0 : Int) ≤ (l : Int) := by omega
  go_wp2
  go_loopw [54] (fun t wr => ∃ k : Nat, k ≤ l ∧ t = .int .i64 k ∧ W2 = wr ∧ Hid (∀ j, j < k → (ids K s)[j]? ≠ some i)) (fun t _ => l - (intOf t).toNat)
  case atStart => exact ⟨0, Nat.zero_le _, rfl, rfl, fun j hj => absurd hj (by omega)⟩
  case round =>
    obtain ⟨k, hk, rfl, hw, hno⟩ := hrel
    subst hw
    by_cases hlt : k < l
    · obtain ⟨u, hu⟩ : ∃ u, (ids K s)[k]? = some u := ⟨(ids K s)[k]'(by rw [hL.out]; exact hlt), List.getElem?_eq_getElem _⟩
      have cu := row_cell RR.out rfl hu
      have i1 : (k : Int) < (l : Int) := by omega
      by_cases e : u = i
      · have eb : (u.toList == i.toList) = true := sbeq_true.2 e
        go_wp2
        go_ret
        exact ⟨rfl, h2.same⟩
      · have eb : (u.toList == i.toList) = false := sbeq_false.2 e
        have hno' : Hid (∀ j, j < k + 1 → (ids K s)[j]? ≠ some i) := fun j hj e' => by
          by_cases ej : j = k
          · subst ej; rw [hu] at e'; injection e' with e'; exact e e'
          · exact hno.out j (by omega) e'
        go_wp2
        go_roundw
        case rel => exact ⟨k + 1, hlt, by go_num, trivial, hno'⟩
        case measure => simp [intOf]; omega
    · obtain rfl : k = l := by omega
      exfalso
      obtain ⟨j, hj⟩ := List.getElem?_of_mem hin.out
      exact hno.out j (by have := (List.getElem?_eq_some_iff.1 hj).1; have := hL.out; omega) hj

set_option maxRecDepth 100000 in
set_option maxHeartbeats 1000000 in
theorem keep_few_new (sB : Nat) (x : SV) (s i : ByteArray) (τ : Nat → Tag) (fl ff fm : Value → Option Value) (K : List (ByteArray × ByteArray)) (w : World) (hr : w.rowIs sB 45 11 (sv x)) (hk : Keep τ x.ml x.mf x.mm fl ff fm K w) (ts : τ sB = .other)
    (hs : s.size ≤ maxLen) (hi : i.size ≤ maxLen) (g l cap : Nat) (hf : ff (.string s) = some (.slice (some ⟨g, 0, none⟩) l cap)) (hm : fm (.string s) = none) (hL : Hid ((ids K s).length = l)) (hin : Hid (i ∉ ids K s)) (hl7 : l < 8) :
    Calls Try.prog 25 #[.pointer (some ⟨sB, 0, none⟩), keyVal s i] w fun e w' => e = .returned (.bool true) ∧ KeepPost sB x τ (K ++ [(s, i)]) w w' := by
  have h0 : Kx w τ x K s i sB w.heap.size (tagAt τ w.heap.size .other) x.ml x.mf x.mm fl ff fm (w.alloc (.cells #[.string s, .string i] 78)) := Kx.start hr hk ts
  unfold keyVal
  go_enter Try.func25, Try.ntmps25
  go_wp2
  obtain ⟨kB, hkB⟩ : ∃ n, n = w.heap.size := ⟨_, rfl⟩
  obtain ⟨W0, hW⟩ : ∃ W, W = w.alloc (.cells #[.string s, .string i] 78) := ⟨_, rfl⟩
  obtain ⟨τ1, hτ1⟩ : ∃ t, t = tagAt τ w.heap.size .other := ⟨_, rfl⟩
  rw [← hW, ← hτ1] at h0
  rw [← hW]
  rw [← hkB] at h0 ⊢
  obtain ⟨ml, hml⟩ : ∃ t, t = x.ml := ⟨_, rfl⟩
  obtain ⟨mf, hmf⟩ : ∃ t, t = x.mf := ⟨_, rfl⟩
  obtain ⟨mm, hmm⟩ : ∃ t, t = x.mm := ⟨_, rfl⟩
  rw [← hml, ← hmf, ← hmm] at h0
  clear hW hkB hr hk hτ1 hml hmf hmm
  have l1 := h0.lookMany hs (v := .tuple #[.map none, .bool false]) (by rw [hm]; rfl)
  obtain ⟨c0, c1, c2, fz, b0, b1⟩ := h0.cells
  go_quiet (fail)
  clear l1 c0 c1 c2 fz b0 b1
  have h1 := h0.drewN nq
  obtain ⟨W1, hW⟩ : ∃ x, x = W0.drewN nq := ⟨_, rfl⟩
  rw [← hW] at h1 ⊢
  clear hW h0
  go_wp2
  have l1 := h1.lookFew hs (v := .tuple #[.slice (some ⟨g, 0, none⟩) l cap, .bool true]) (by rw [hf]; rfl)
  obtain ⟨c0, c1, c2, fz, b0, b1⟩ := h1.cells
  go_quiet (fail)
  clear l1 c0 c1 c2 fz b0 b1
  have h2 := h1.drewN nq
  obtain ⟨W2, hW⟩ : ∃ x, x = W1.drewN nq := ⟨_, rfl⟩
  rw [← hW] at h2 ⊢
  clear hW h1
  have hfew : 2 ≤ l ∧ l ≤ 8 ∧ W2.ownsRow 0 9 1 (.slice (some ⟨g, 0, none⟩) l cap) l ((ids K s).map Value.string) ∧ τ1 g = .row s := by
    rcases h2.keep.hf s with ⟨e, _⟩ | ⟨v, e, e1, e2, e3, e4⟩
    · rw [hf] at e; cases e
    · rw [hf] at e; injection e with e; subst e
      rw [hL.out] at e1 e2 e3
      exact ⟨e1, e2, e3, e4 g rfl⟩
  obtain ⟨hl2, hl8, hrow, htg⟩ := hfew
  have RR : Hid (W2.ownsRow 0 9 1 (.slice (some ⟨g, 0, none⟩) l cap) l ((ids K s).map Value.string)) := hrow
  clear hrow
  obtain ⟨c0, c1, c2, fz, b0, b1⟩ := h2.cells
  clear c0 c1 c2 fz
  have hnil : (0 : Int) ≤ (l : Int) := by omega
  go_wp2
  go_loopw [54] (fun t wr => ∃ k : Nat, k ≤ l ∧ t = .int .i64 k ∧ W2 = wr ∧ Hid (∀ j, j < k → (ids K s)[j]? ≠ some i)) (fun t _ => l - (intOf t).toNat)
  case atStart => exact ⟨0, Nat.zero_le _, rfl, rfl, fun j hj => absurd hj (by omega)⟩
  case round =>
    obtain ⟨k, hk, rfl, hw, hno⟩ := hrel
    subst hw
    by_cases hlt : k < l
    · obtain ⟨u, hu⟩ : ∃ u, (ids K s)[k]? = some u := ⟨(ids K s)[k]'(by rw [hL.out]; exact hlt), List.getElem?_eq_getElem _⟩
      have cu := row_cell RR.out rfl hu
      have i1 : (k : Int) < (l : Int) := by omega
      by_cases e : u = i
      · have eb : (u.toList == i.toList) = true := sbeq_true.2 e
        exact absurd (e ▸ List.mem_of_getElem? hu) hin.out
      · have eb : (u.toList == i.toList) = false := sbeq_false.2 e
        have hno' : Hid (∀ j, j < k + 1 → (ids K s)[j]? ≠ some i) := fun j hj e' => by
          by_cases ej : j = k
          · subst ej; rw [hu] at e'; injection e' with e'; exact e e'
          · exact hno.out j (by omega) e'
        go_wp2
        go_roundw
        case rel => exact ⟨k + 1, hlt, by go_num, trivial, hno'⟩
        case measure => simp [intOf]; omega
    · obtain rfl : k = l := by omega
      clear hno hlt hk hnil
      have i7 : (k : Int) < 8 := by omega
      go_wp2
      cases mf with
      | none =>
        obtain ⟨n1, m1⟩ := h2.keep.few
        rw [m1.1] at hf
        cases hf
      | some fb =>
        obtain ⟨n2, m2⟩ := h2.keep.few
        obtain ⟨i0, hi0, hz0, hz1, hz2⟩ := info_parts Try.info9
        obtain ⟨c0, c1, c2, fz, _, _⟩ := h2.cells
        have hmv := (h2.mv.alloc (.cells #[.string i] 9) .other).drew
        obtain ⟨_, a1, _, _, a3, a4⟩ := hmv.cells
        have hrw : (W2.alloc (.cells #[.string i] 9)).drew.ownsRow 0 9 1 (.slice (some ⟨g, 0, none⟩) k cap) k ((ids K s).map Value.string) := (RR.out.alloc _).drew
        have htg' : tagAt τ1 W2.heap.size .other g = .row s := by rw [tagAt_other _ _ (by have := (RR.out.lt g rfl).2; omega)]; exact htg
        have hHs : (W2.alloc (.cells #[.string i] 9)).drew.heap.size = W2.heap.size + 1 := Go.Deep.nblk_alloc _ _
        have hfbl : fb < W2.heap.size := MapF.lt m2
        have hgl : g < W2.heap.size := (RR.out.lt g rfl).2
        clear c0 c2 fz
        go_region_held3 (fun w' => w'.cell? ⟨sB, 1, none⟩ = some (.map (some fb)) ∧ w'.cell? ⟨kB, 0, none⟩ = some (.string s) ∧ w'.cell? ⟨kB, 1, none⟩ = some (.string i))
          (first | exact ⟨c1, b0, b1⟩ | exact ⟨a1, a3, a4⟩ | exact ⟨p1, p3, p4⟩ | exact ⟨q1, q3, q4⟩)
          ((refine step_append_lies _ (by rfl) _ _ _ (by rfl) 0 9 i0 _ 1 16 Try.underlying53 hi0 hz0 hz1 hz2 rfl (by omega) (.slice (some ⟨g, 0, none⟩) k cap) k ((ids K s).map Value.string) (by rfl) hrw
              ⟨W2.heap.size, 0, none⟩ 1 1 [.string i] (by rfl) (by rfl) (World.news_of_block (cs := #[.string i]) (t := 9) (fr := (0, 0)) (by exact Go.Deep.blk_alloc_new _ _)) (by simp [Value.oneCell'])
              (by omega) (by unfold maxLen; omega) (by omega) (by omega) (W2.heap.size + 1) (by simp) ?_; intro gg cap1 w1 hown1 hgrow hat hlt1; have hmv1 := hmv.grown htg' hgrow (by rw [hHs]; exact hat); obtain ⟨_, p1, _, _, p3, p4⟩ := hmv1.cells; obtain ⟨n3, m3⟩ := hmv1.few; obtain ⟨w2, hput, hm2, ht2⟩ := MapF.put_old (w := w1) keyed9 Try.underlying27 m3 (key9 s hs) hf (.slice (some ⟨gg, 0, none⟩) (k + 1) cap1); have hmv2 := hmv1.put_few hm2 ht2; obtain ⟨_, q1, _, _, q3, q4⟩ := hmv2.cells))
        go_wp2
        go_ret
        refine ⟨rfl, hmv2.done hs hi ?_ (.inr ⟨_, upd_same _ _ _, by simp [hL.out]; omega, by simp [hL.out]; omega, ?_, fun g' hg' => ?_⟩) (.inl ⟨hm, by simp [hL.out]; omega⟩)⟩
        · rw [h2.keep.hl s]
          exact lone_long (by rw [hL.out]; exact hl2)
        · have : (ids K s ++ [i]).length = k + 1 := by simp [hL.out]
          rw [this, List.map_append]
          refine owns_move hown1 fun g' hg' => ht2.block g' (fun e => ?_)
          have h1 := hmv1.tf fb rfl
          have h2 : g' = gg := by simpa [Value.ownBlock] using hg'.symm
          rw [← e, h2, tagAt_same] at h1
          cases h1
        · have h2 : g' = gg := by simpa [Value.ownBlock] using hg'.symm
          rw [h2]
          exact tagAt_same _ _ _

end Go.Proofs.Qxb6603530a
