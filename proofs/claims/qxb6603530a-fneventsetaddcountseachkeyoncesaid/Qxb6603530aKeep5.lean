import Derived.Test.Qxb6603530aKeep4
namespace Go.Proofs.Qxb6603530a
open Go.ChangeShapes Go.WideShapes Go.ChangeAt Go.RowKit
open MapV


theorem make73 (h : Int) (w : World) : (Instr.makeMap 73 (some (.int .i64 h))).run Try.prog w = .ok (.map (some w.heap.size)) (w.alloc (.map #[] 0)) := by
  simp [Instr.makeMap, run_underlying Try.underlying73, asInt, asIntOf, Result.andThen]

theorem SetIs.put {w : World} {b : Nat} {l : List ByteArray} {u : ByteArray} (h : SetIs w b l) (hu : u.size ≤ maxLen) : ∃ w', (Instr.mapUpdate 73 (.map (some b)) (.string u) (.agg #[])).run Try.prog w = .ok () w' ∧ SetIs w' b (l ++ [u]) ∧ Turned b w w' := by
  obtain ⟨f, n, hf, hi⟩ := h
  have key : ∀ j, (j ∈ l ++ [u] → upd f (.string u) (some (.agg #[])) (.string j) = some (.agg #[])) ∧ (j ∉ l ++ [u] → upd f (.string u) (some (.agg #[])) (.string j) = none) := fun j => by
    by_cases e : j = u
    · subst e
      rw [upd_same]
      simp
    · rw [upd_other _ _ (by simpa using e)]
      simp only [List.mem_append, List.mem_singleton, e, or_false]
      exact hi j
  cases hx : f (.string u) with
  | none =>
    obtain ⟨w', h1, h2, h3⟩ := hf.put_new keyed9 Try.underlying73 (key9 u hu) hx (.agg #[])
    exact ⟨w', h1, ⟨_, _, h2, key⟩, h3⟩
  | some v =>
    obtain ⟨w', h1, h2, h3⟩ := hf.put_old keyed9 Try.underlying73 (key9 u hu) hx (.agg #[])
    exact ⟨w', h1, ⟨_, _, h2, key⟩, h3⟩
theorem SetIs.new (w : World) : SetIs (w.alloc (.map #[] 0)) w.heap.size [] := ⟨_, _, MapF.new Try.prog 9 w, fun _ => ⟨fun h => (by simp at h), fun _ => rfl⟩⟩

section
variable {w : World} {τ0 : Nat → Tag} {x : SV} {K : List (ByteArray × ByteArray)} {s i : ByteArray} {sB kB : Nat} {τ : Nat → Tag} {ml mf mm : Option Nat} {fl ff fm : Value → Option Value} {W : World}
/-- The set of source s is turned. -/
theorem Mv.set {b : Nat} {W1 : World} (h : Mv w τ0 x K s i sB kB τ ml mf mm fl ff fm W) (hb : τ b = .set s) (ht : Turned b W W1) : Mv w τ0 x K s i sB kB τ ml mf mm fl ff fm W1 :=
  h.touch (fun _ _ => rfl) (fun k _ _ e => ht.block k (fun e2 => e (e2 ▸ hb))) (h.fr.turned ht (h.may (by rw [hb]; trivial))) (by rw [ht.size]; exact Nat.le_refl _)
end

/-- The filling of the new set. -/
structure Fi (w : World) (τ0 : Nat → Tag) (x : SV) (K : List (ByteArray × ByteArray)) (s i : ByteArray) (sB kB : Nat) (τ : Nat → Tag) (ml mf mm : Option Nat) (fl ff fm : Value → Option Value) (v : Value) (l sb : Nat) (L : List ByteArray) (W : World) : Prop where
  mv : Mv w τ0 x K s i sB kB τ ml mf mm fl ff fm W
  set : SetIs W sb L
  row : W.ownsRow 0 9 1 v l ((ids K s).map Value.string)
  tag : τ sb = .set s

theorem Fi.next {w : World} {τ0 : Nat → Tag} {x : SV} {K : List (ByteArray × ByteArray)} {s i : ByteArray} {sB kB : Nat} {τ : Nat → Tag} {ml mf mm : Option Nat} {fl ff fm : Value → Option Value} {v : Value} {l sb : Nat} {L L' : List ByteArray} {W W' : World} (h : Fi w τ0 x K s i sB kB τ ml mf mm fl ff fm v l sb L W)
    (hs : SetIs W' sb L') (ht : Turned sb W W') (hv : ∀ g, v.ownBlock = some g → τ g = .row s) : Fi w τ0 x K s i sB kB τ ml mf mm fl ff fm v l sb L' W' :=
  ⟨h.mv.set h.tag ht, hs, owns_move h.row (fun g hg => ht.block g (fun e => by have := hv g hg; rw [e, h.tag] at this; cases this)), h.tag⟩

set_option maxRecDepth 100000 in
set_option maxHeartbeats 1000000 in
theorem keep_few_full (sB : Nat) (x : SV) (s i : ByteArray) (τ : Nat → Tag) (fl ff fm : Value → Option Value) (K : List (ByteArray × ByteArray)) (w : World) (hr : w.rowIs sB 45 11 (sv x)) (hk : Keep τ x.ml x.mf x.mm fl ff fm K w) (ts : τ sB = .other)
    (hs : s.size ≤ maxLen) (hi : i.size ≤ maxLen) (g l cap : Nat) (hf : ff (.string s) = some (.slice (some ⟨g, 0, none⟩) l cap)) (hm : fm (.string s) = none) (hL : Hid ((ids K s).length = l)) (hin : Hid (i ∉ ids K s)) (hl8' : 8 ≤ l) :
    Calls Try.prog 25 #[.pointer (some ⟨sB, 0, none⟩), keyVal s i] w fun e w' => e = .returned (.bool true) ∧ KeepPost sB x τ (K ++ [(s, i)]) w w' := by
  have h0 : Kx w τ x K s i sB w.heap.size (tagAt τ w.heap.size .other) x.ml x.mf x.mm fl ff fm (w.alloc (.cells #[.string s, .string i] 78)) := Kx.start hr hk ts
  unfold keyVal
  go_enter Try.func25, Try.ntmps25
  go_wp2
  obtain ⟨kB, hkB⟩ : ∃ n, n = w.heap.size := ⟨_, rfl⟩
  obtain ⟨W0, hW⟩ : ∃ W, W = w.alloc (.cells #[.string s, .string i] 78) := ⟨_, rfl⟩
  obtain ⟨τ1, hτ1⟩ : ∃ t, t = tagAt τ w.heap.size .other := ⟨_, rfl⟩
  rw [← hW, ← hτ1] at h0
  rw [← hW]
  rw [← hkB] at h0 ⊢
  obtain ⟨ml, hml⟩ : ∃ t, t = x.ml := ⟨_, rfl⟩
  obtain ⟨mf, hmf⟩ : ∃ t, t = x.mf := ⟨_, rfl⟩
  obtain ⟨mm, hmm⟩ : ∃ t, t = x.mm := ⟨_, rfl⟩
  rw [← hml, ← hmf, ← hmm] at h0
  clear hW hkB hr hk hτ1 hml hmf hmm
  have l1 := h0.lookMany hs (v := .tuple #[.map none, .bool false]) (by rw [hm]; rfl)
  obtain ⟨c0, c1, c2, fz, b0, b1⟩ := h0.cells
  go_quiet (fail)
  clear l1 c0 c1 c2 fz b0 b1
  have h1 := h0.drewN nq
  obtain ⟨W1, hW⟩ : ∃ x, x = W0.drewN nq := ⟨_, rfl⟩
  rw [← hW] at h1 ⊢
  clear hW h0
  go_wp2
  have l1 := h1.lookFew hs (v := .tuple #[.slice (some ⟨g, 0, none⟩) l cap, .bool true]) (by rw [hf]; rfl)
  obtain ⟨c0, c1, c2, fz, b0, b1⟩ := h1.cells
  go_quiet (fail)
  clear l1 c0 c1 c2 fz b0 b1
  have h2 := h1.drewN nq
  obtain ⟨W2, hW⟩ : ∃ x, x = W1.drewN nq := ⟨_, rfl⟩
  rw [← hW] at h2 ⊢
  clear hW h1
  have hfew : 2 ≤ l ∧ l ≤ 8 ∧ W2.ownsRow 0 9 1 (.slice (some ⟨g, 0, none⟩) l cap) l ((ids K s).map Value.string) ∧ τ1 g = .row s := by
    rcases h2.keep.hf s with ⟨e, _⟩ | ⟨v, e, e1, e2, e3, e4⟩
    · rw [hf] at e; cases e
    · rw [hf] at e; injection e with e; subst e
      rw [hL.out] at e1 e2 e3
      exact ⟨e1, e2, e3, e4 g rfl⟩
  obtain ⟨hl2, hl8, hrow, htg⟩ := hfew
  have RR : Hid (W2.ownsRow 0 9 1 (.slice (some ⟨g, 0, none⟩) l cap) l ((ids K s).map Value.string)) := hrow
  clear hrow
  obtain ⟨c0, c1, c2, fz, b0, b1⟩ := h2.cells
  clear c0 c1 c2 fz
  have hnil : (0 : Int) ≤ (l : Int) := by omega
  go_wp2
  go_loopw [54] (fun t wr => ∃ k : Nat, k ≤ l ∧ t = .int .i64 k ∧ W2 = wr ∧ Hid (∀ j, j < k → (ids K s)[j]? ≠ some i)) (fun t _ => l - (intOf t).toNat)
  case atStart => exact ⟨0, Nat.zero_le _, rfl, rfl, fun j hj => absurd hj (by omega)⟩
  case round =>
    obtain ⟨k, hk, rfl, hw, hno⟩ := hrel
    subst hw
    by_cases hlt : k < l
    · obtain ⟨u, hu⟩ : ∃ u, (ids K s)[k]? = some u := ⟨(ids K s)[k]'(by rw [hL.out]; exact hlt), List.getElem?_eq_getElem _⟩
      have cu := row_cell RR.out rfl hu
      have i1 : (k : Int) < (l : Int) := by omega
      by_cases e : u = i
      · have eb : (u.toList == i.toList) = true := sbeq_true.2 e
        exact absurd (e ▸ List.mem_of_getElem? hu) hin.out
      · have eb : (u.toList == i.toList) = false := sbeq_false.2 e
        have hno' : Hid (∀ j, j < k + 1 → (ids K s)[j]? ≠ some i) := fun j hj e' => by
          by_cases ej : j = k
          · subst ej; rw [hu] at e'; injection e' with e'; exact e e'
          · exact hno.out j (by omega) e'
        go_wp2
        go_roundw
        case rel => exact ⟨k + 1, hlt, by go_num, trivial, hno'⟩
        case measure => simp [intOf]; omega
    · obtain rfl : k = l := by omega
      clear hno hlt hk hnil
      have i7 : ¬ ((k : Int) < 8) := by omega
      have HL : Hid (fl (.string s) = loneOf (ids K s)) := h2.keep.hl s
      have WF : Hid (∀ (j : Nat) (u : ByteArray), (ids K s)[j]? = some u → u.size ≤ maxLen) := fun j u hu => (h2.keep.wf (s, u) (mem_ids.1 (List.mem_of_getElem? hu))).2
      go_wp2
      cases mf with
      | none =>
        obtain ⟨n1, m1⟩ := h2.keep.few
        rw [m1.1] at hf
        cases hf
      | some fb =>
        obtain ⟨n2, m2⟩ := h2.keep.few
        obtain ⟨c0, c1, c2, fz, _, _⟩ := h2.cells
        have hmv := h2.mv.drew
        have hgl : g < W2.heap.size := (RR.out.lt g rfl).2
        clear fz c0 c2
        go_region_held3 (fun w' => w'.cell? ⟨sB, 1, none⟩ = some (.map (some fb)) ∧ w'.cell? ⟨kB, 0, none⟩ = some (.string s))
          (first | exact ⟨k0, k1⟩ | exact ⟨c1, b0⟩) ((refine step_del_hit rfl _ _ 27 9 rfl 9 53 keyed9 Try.underlying27 fb ff n2 rfl (MapF.of_block m2 rfl) (.string s) (.slice (some ⟨g, 0, none⟩) k cap) _ rfl (key9 s hs) hf ?_; intro W3 hm1 ht1; have h3 := hmv.put_few hm1 ht1; obtain ⟨_, k0, _, _, k1, _⟩ := h3.cells))
        have hrow : W3.ownsRow 0 9 1 (.slice (some ⟨g, 0, none⟩) k cap) k ((ids K s).map Value.string) := owns_move RR.out (fun g' hg' => ht1.block g' (fun e => by
          have h1 := h2.keep.tf fb rfl
          have h2 : g' = g := by simpa [Value.ownBlock] using hg'.symm
          rw [← e, h2, htg] at h1
          cases h1))
        have hgl1 : g < W3.heap.size := by rw [ht1.size]; exact hgl
        clear hm1 ht1 hmv m2 c1 b0 b1 h2 k0 k1 hgl RR
        have mk := make73
        have FI : Fi w τ x K s i sB kB (tagAt τ1 W3.heap.size (.set s)) ml (some fb) mm fl (upd ff (.string s) none) fm (.slice (some ⟨g, 0, none⟩) k cap) k W3.heap.size ((ids K s).take 0) (W3.alloc (.map #[] 0)) := ⟨h3.alloc _ _, by simpa using SetIs.new W3, hrow.alloc _, tagAt_same _ _ _⟩
        have htg2 : ∀ g', (Value.slice (some ⟨g, 0, none⟩) k cap).ownBlock = some g' → tagAt τ1 W3.heap.size (.set s) g' = .row s := fun g' hg' => by
          have h2 : g' = g := by simpa [Value.ownBlock] using hg'.symm
          rw [h2, tagAt_other _ _ (by omega)]
          exact htg
        go_wp2
        obtain ⟨W4, hW⟩ : ∃ x, x = W3.alloc (.map #[] 0) := ⟨_, rfl⟩
        obtain ⟨sb, hsb⟩ : ∃ x, x = W3.heap.size := ⟨_, rfl⟩
        obtain ⟨τ2, hτ2⟩ : ∃ t, t = tagAt τ1 W3.heap.size (.set s) := ⟨_, rfl⟩
        rw [← hW, ← hτ2, ← hsb] at FI
        rw [← hτ2] at htg2
        rw [← hW, ← hsb]
        clear hW hsb hτ2 h3 hrow hgl1 htg
        go_loopw [89] (fun t wr => ∃ q : Nat, q ≤ k ∧ t = .int .i64 q ∧ Fi w τ x K s i sB kB τ2 ml (some fb) mm fl (upd ff (.string s) none) fm (.slice (some ⟨g, 0, none⟩) k cap) k sb ((ids K s).take q) wr) (fun t _ => k - (intOf t).toNat)
        case atStart => exact ⟨0, Nat.zero_le _, rfl, FI⟩
        case round =>
          clear FI W4
          obtain ⟨q, hq, rfl, F⟩ := hrel
          by_cases hlt : q < k
          · obtain ⟨u, hu⟩ : ∃ u, (ids K s)[q]? = some u := ⟨(ids K s)[q]'(by rw [hL.out]; exact hlt), List.getElem?_eq_getElem _⟩
            have cu := row_cell F.row rfl hu
            have i1 : (q : Int) < (k : Int) := by omega
            obtain ⟨w1, hput, hs1, ht1⟩ := F.set.put (WF.out q u hu)
            have F1 := F.next (L' := (ids K s).take (q + 1)) (by rw [List.take_add_one, hu]; exact hs1) ht1 htg2
            go_wp2
            go_roundw
            case rel => exact ⟨q + 1, hlt, by go_num, F1⟩
            case measure => simp [intOf]; omega
          · obtain rfl : q = k := by omega
            have F0 := F
            rw [List.take_of_length_le (by rw [hL.out]; exact Nat.le_refl _)] at F0
            obtain ⟨_, _, _, _, _, b1⟩ := F0.mv.cells
            obtain ⟨w3, hput, hs3, ht3⟩ := F0.set.put hi
            have F3 := F0.next hs3 ht3 htg2
            have htag := F3.tag
            have h5 := F3.mv
            have hset := F3.set
            obtain ⟨_, _, c2, _, _, _⟩ := h5.cells
            clear F F0 hlt hq
            cases mm with
            | none =>
              have mk2 := @run_makeMap Try.prog
              have en := nil28
              have fz0 := h5.cells.2.2.2.1 2
              have h6 := h5.mk_many
              have a0 := (h5.alloc (.map #[] 0) .other).cells.2.2.1
              have z0 := (h5.alloc (.map #[] 0) .other).cells.2.2.2.1 2
              have hlt3 := hset.lt
              have hset4 : SetIs ((w3.alloc (.map #[] 0)).setCell ⟨sB, 2, none⟩ (.map (some w3.heap.size))) sb (ids K s ++ [i]) := hset.of_block (by rw [Go.Deep.blk_setCell_other _ _ _ _ (h5.ne (by rw [htag]; trivial)).1, Go.Deep.blk_alloc_lt _ _ _ hlt3])
              have htag4 : tagAt τ2 w3.heap.size .many sb = .set s := by rw [tagAt_other _ _ (by omega)]; exact htag
              go_wp2
              clear a0 z0 fz0 c2 b1 h5 mk2 en hset htag hlt3 F3 hput hs3 ht3
              obtain ⟨W6, hW⟩ : ∃ x, x = (w3.alloc (.map #[] 0)).setCell ⟨sB, 2, none⟩ (.map (some w3.heap.size)) := ⟨_, rfl⟩
              rw [← hW] at h6 hset4 ⊢
              obtain ⟨mb, hmb⟩ : ∃ x, x = w3.heap.size := ⟨_, rfl⟩
              obtain ⟨τ3, hτ3⟩ : ∃ t, t = tagAt τ2 w3.heap.size .many := ⟨_, rfl⟩
              rw [← hτ3] at htag4
              rw [← hτ3, ← hmb] at h6
              clear hW hmb hτ3
              have hset := hset4
              have htag := htag4
              clear hset4 htag4
              obtain ⟨n4, m4⟩ := h6.many
              have kt := h6.ne (b := mb) (by rw [h6.tm mb rfl]; trivial)
              obtain ⟨w5, hput, hm5, ht5⟩ := MapF.put_new (w := W6.drew) keyed9 Try.underlying28 (MapF.of_block m4 rfl) (key9 s hs) hm (.map (some sb))
              have hmv5 := h6.drew.put_many hm5 ht5
              obtain ⟨c0, c1, c2, fz, b0, b1⟩ := h6.cells
              obtain ⟨_, _, k0, _, k1, _⟩ := hmv5.cells
              have hset5 : SetIs w5 sb (ids K s ++ [i]) := hset.of_block (ht5.block sb (fun e => by have := h6.tm mb rfl; rw [← e, htag] at this; cases this))
              clear fz c0 c1 b1
              go_region_held3 (fun w' => w'.cell? ⟨sB, 2, none⟩ = some (.map (some mb)) ∧ w'.cell? ⟨kB, 0, none⟩ = some (.string s))
                (first | exact ⟨c2, b0⟩ | exact ⟨k0, k1⟩) (fail)
              go_wp2
              go_ret
              refine ⟨rfl, hmv5.done hs hi ?_ (.inl ⟨upd_same _ _ _, by simp [hL.out]; omega⟩) (.inr ⟨sb, upd_same _ _ _, by simp [hL.out]; omega, hset5, htag⟩)⟩
              rw [HL.out]
              exact lone_long (by rw [hL.out]; omega)

            | some mb =>
              have en := some28
              go_wp2
              clear b1 c2 en F3 hput hs3 ht3
              obtain ⟨n4, m4⟩ := h5.many
              have kt := h5.ne (b := mb) (by rw [h5.tm mb rfl]; trivial)
              obtain ⟨w5, hput, hm5, ht5⟩ := MapF.put_new (w := w3.drew) keyed9 Try.underlying28 (MapF.of_block m4 rfl) (key9 s hs) hm (.map (some sb))
              have hmv5 := h5.drew.put_many hm5 ht5
              obtain ⟨c0, c1, c2, fz, b0, b1⟩ := h5.cells
              obtain ⟨_, _, k0, _, k1, _⟩ := hmv5.cells
              have hset5 : SetIs w5 sb (ids K s ++ [i]) := hset.of_block (ht5.block sb (fun e => by have := h5.tm mb rfl; rw [← e, htag] at this; cases this))
              clear fz c0 c1 b1
              go_region_held3 (fun w' => w'.cell? ⟨sB, 2, none⟩ = some (.map (some mb)) ∧ w'.cell? ⟨kB, 0, none⟩ = some (.string s))
                (first | exact ⟨c2, b0⟩ | exact ⟨k0, k1⟩) (fail)
              go_wp2
              go_ret
              refine ⟨rfl, hmv5.done hs hi ?_ (.inl ⟨upd_same _ _ _, by simp [hL.out]; omega⟩) (.inr ⟨sb, upd_same _ _ _, by simp [hL.out]; omega, hset5, htag⟩)⟩
              rw [HL.out]
              exact lone_long (by rw [hL.out]; omega)


end Go.Proofs.Qxb6603530a
