import Derived.Test.Qxb6603530aNode3
namespace Go.Proofs.Qxb6603530a
open Go.ChangeShapes Go.WideShapes Go.ChangeAt Go.RowKit
open MapV

/-- The last mark's time. -/
theorem last_cell {e : Ev} {τ : Nat → Tag} {nb g l cap : Nat} {v : Value} {L : List Ev} {W : World} (d : ND e τ nb v l L W) (hv : v = .slice (some ⟨g, 0, none⟩) l cap) (h0 : 0 < l) (hL : L.length = l) : W.cell? ⟨g, (l - 1) * 3, none⟩ = some (.int .i64 (-62135596800)) := by
  have key : ∀ (L : List Ev) (k : Nat), k < L.length → (L.flatMap markCells)[k * 3]? = some (.int .i64 zeroAt) := by
    intro L
    induction L with
    | nil => intro k hk; simp at hk
    | cons a r ih =>
      intro k hk
      cases k with
      | zero => rfl
      | succ k =>
        have := ih k (by simpa using hk)
        rw [List.flatMap_cons, List.getElem?_append_right (by simp [markCells]; omega)]
        simpa [markCells, show (k + 1) * 3 - 3 = k * 3 by omega] using this
  have := d.own.cells (g := g) (by rw [hv]; rfl) ((l - 1) * 3) _ (key L (l - 1) (by omega))
  have hadd : (⟨g, 0, none⟩ : Addr).add ((l - 1) * 3) = ⟨g, (l - 1) * 3, none⟩ := by unfold Addr.add; split <;> simp_all
  rwa [hadd] at this

set_option maxRecDepth 100000 in
set_option maxHeartbeats 4000000 in
theorem nodeAdd_start_nil (sB : Nat) (x : SV) (τ : Nat → Tag) (fn : Value → Option Value) (n : Nat) (K : List Ev) (e : Ev) (w : World) (hr : w.rowIs sB 45 11 (sv x)) (hk : Nodes τ x.nm fn n K w) (ts : τ sB = .other)
    (hc : e.clu.size ≤ maxLen) (hs : e.subj.size ≤ maxLen) (hl0 : 0 ≤ x.nl) (hl1 : x.nl ≤ 4096) (h1 : (e.typ.toList == kStarted) = true) (hnm : Hid (x.nm = none)) :
    Calls Try.prog 27 #[.pointer (some ⟨sB, 4, none⟩), evtVal e] w fun r w' => r = .returned (.tuple #[]) ∧ NodePost sB x τ (n + 1) (K ++ [e]) w w' := by
  have HE : Hid (isNd e = true ∧ isSt e = true ∧ roleOf e = e.role) := ⟨by simp [isNd, h1], h1, by simp [roleOf, isSt, h1]⟩
  have hfn : fn (nameVal e.clu e.subj) = none := by
    have := hk.map
    rw [hnm.out] at this
    exact this.1 _
  have hNE : Hid (ofNode K e.clu e.subj = []) := by
    rcases hk.at_ e.clu e.subj with ⟨_, h0⟩ | ⟨nb, v, h0, _⟩
    · exact h0
    · rw [hfn] at h0; cases h0
  have en := nil29
  have mk := @run_makeMap Try.prog
  unfold evtVal
  go_enter Try.func27, Try.ntmps27
  go_wp2_with (go_at_call 33; refine (unix_any _).mono ?_; rintro r w1 ⟨rfl, hb1⟩; have hA : NA w τ x K e sB w.heap.size w1.heap.size false 0 (tagAt (tagAt τ w.heap.size .other) w1.heap.size .other) x.nm fn n (w1.alloc (.cells #[.int .i64 (-62135596800), .bool false, .int .u8 0] 93)) := NA.start hr hk ts hb1; rw [hnm.out] at hA; obtain ⟨q2, q3, q7, q8, q4, qz⟩ := hA.facts; obtain ⟨m1, m2, mz⟩ := hA.marks)
  have mz1 := mz 1
  have mz2 := mz 2
  have hem := hA.em
  obtain ⟨eB, heB⟩ : ∃ t, t = w.heap.size := ⟨_, rfl⟩
  obtain ⟨mB, hmB⟩ : ∃ t, t = w1.heap.size := ⟨_, rfl⟩
  obtain ⟨A, hAe⟩ : ∃ t, t = (w1.alloc (.cells #[.int .i64 (-62135596800), .bool false, .int .u8 0] 93)) := ⟨_, rfl⟩
  obtain ⟨τ1, hτ1⟩ : ∃ t, t = tagAt (tagAt τ w.heap.size .other) w1.heap.size .other := ⟨_, rfl⟩
  rw [← hAe] at hA q8 m1 m2 mz1 mz2 ⊢
  rw [← hτ1] at hA
  rw [← heB, ← hmB] at hA hem ⊢
  rw [← heB] at q8
  rw [← hmB] at m1 m2 mz1 mz2
  clear mz qz q2 q3 q7 q4 hAe hτ1 heB hmB hb1 w1
  have hS := (hA.started e.role).drew
  have k8 : (A.setCell ⟨mB, 1, none⟩ (.bool true)).cell? ⟨eB, 8, none⟩ = some (.int .u8 e.role) := (World.cell?_of_block (w := A) (Go.Deep.blk_setCell_other A _ _ _ (by simp; omega))).trans q8
  have k9 := hS.facts.2.2.2.1
  go_region_held3 (fun w' => w'.cell? ⟨eB, 8, none⟩ = some (.int .u8 e.role)) (first | exact q8 | exact k8 | exact k9) (fail)
  clear k8 k9 q8 m1 m2 mz1 mz2 hA hem
  obtain ⟨W, hW⟩ : ∃ t, t = ((A.setCell ⟨mB, 1, none⟩ (.bool true)).setCell ⟨mB, 2, none⟩ (.int .u8 e.role)).drew := ⟨_, rfl⟩
  rw [← hW] at hS ⊢
  clear hW
  have hA := hS
  clear hS
  obtain ⟨q2, q3, q7, q8, q4, qz⟩ := hA.facts
  have hAl := (hA.alloc (.map #[] 0) .other).facts
  have r4 := hAl.2.2.2.2.1
  have r5 := hAl.2.2.2.2.2 4
  have hB := hA.mkNodes
  have s3 := hB.facts.2.1
  have s7 := hB.facts.2.2.1
  clear qz q2 q8
  go_wp2
  have hN := hB.toNM
  have hsz : ((W.alloc (.map #[] 0)).setCell ⟨sB, 4, none⟩ (.map (some W.heap.size))).heap.size = W.heap.size + 1 := by simp [World.setCell]
  rw [hsz] at hN
  clear r4 r5 s3 s7 hAl hB hA q3 q7 q4 en mk hsz
  obtain ⟨W0, hW⟩ : ∃ t, t = ((W.alloc (.map #[] 0)).setCell ⟨sB, 4, none⟩ (.map (some W.heap.size))).alloc (.cells #[.string e.clu, .string e.subj] 95) := ⟨_, rfl⟩
  obtain ⟨kB, hkB⟩ : ∃ t, t = W.heap.size + 1 := ⟨_, rfl⟩
  obtain ⟨b, hb⟩ : ∃ t, t = W.heap.size := ⟨_, rfl⟩
  obtain ⟨τ2, hτ2⟩ : ∃ t, t = tagAt (tagAt τ1 W.heap.size .nodes) (W.heap.size + 1) .other := ⟨_, rfl⟩
  rw [← hW, ← hτ2, ← hkB, ← hb] at hN
  rw [← hW, ← hkB]
  clear hW hkB hb hτ2
  clear hr hk ts hnm
  have l1 := nodeLook hN hc hs (v := .pointer none) (by rw [hfn]; rfl)
  obtain ⟨c4, c5, z5, k0, k1, m0, m1, m2⟩ := hN.facts
  go_quiet (fail)
  clear l1 c4 c5 z5 k0 k1 m0 m1 m2
  have hN1 := hN.drewN nq
  obtain ⟨W1, hW⟩ : ∃ t, t = W0.drewN nq := ⟨_, rfl⟩
  rw [← hW] at hN1 ⊢

  clear hW hN
  have pn := pnil96
  go_wp2
  clear pn
  obtain ⟨kl, hkl⟩ := key95 e.clu e.subj hc hs
  have mp := hN1.map
  have hbl : b < W1.heap.size := MapF.lt mp
  have hN2 := (hN1.alloc (.cells #[.slice none 0 0, .int .i64 0] 99) (.node e.clu e.subj)).drew
  have mp2 : MapF Try.prog 95 (W1.alloc (.cells #[.slice none 0 0, .int .i64 0] 99)).drew b fn n := MapF.of_block mp (Go.Deep.blk_alloc_lt W1 _ _ hbl)
  obtain ⟨W3, hput, hm3, ht3⟩ := mp2.put_new keyed95 Try.underlying29 hkl hfn (.pointer (some ⟨W1.heap.size, 0, none⟩))
  have hN3 := hN2.put hm3 ht3
  have hrow3 : W3.rowIs W1.heap.size 99 2 (nv (.slice none 0 0) 0) := (World.rowIs_alloc W1 #[.slice none 0 0, .int .i64 0] 99 (nv (.slice none 0 0) 0) (fun i hi => match i, hi with | 0, _ => rfl | 1, _ => rfl)).of_block (ht3.block _ (by omega))
  have hD : ND e (tagAt τ2 W1.heap.size (.node e.clu e.subj)) W1.heap.size (.slice none 0 0) 0 (ofNode K e.clu e.subj) W3 := by
    rcases hNE.out with h0
    rw [h0]
    exact ⟨tagAt_same _ _ _, hrow3, World.ownsRow_nil _ _ _ _, fun g hg => by simp [Value.ownBlock] at hg⟩
  have hN1a := (hN1.alloc (.cells #[.slice none 0 0, .int .i64 0] 99) .other).facts
  obtain ⟨a4, _, _, ak0, ak1, _, _, _⟩ := hN1a
  obtain ⟨p4, _, _, pk0, pk1, _, _, _⟩ := hN3.facts
  go_region_held3 (fun w' => w'.cell? ⟨sB, 4, none⟩ = some (.map (some b)) ∧ w'.cell? ⟨kB, 0, none⟩ = some (.string e.clu) ∧ w'.cell? ⟨kB, 1, none⟩ = some (.string e.subj))
    (first | exact ⟨a4, ak0, ak1⟩ | exact ⟨p4, pk0, pk1⟩) (fail)
  clear a4 ak0 ak1 p4 pk0 pk1 hput hm3 ht3 mp mp2 hN2 hrow3 hkl
  obtain ⟨nb, hnb⟩ : ∃ t, t = W1.heap.size := ⟨_, rfl⟩
  obtain ⟨τ3, hτ3⟩ : ∃ t, t = tagAt τ2 W1.heap.size (.node e.clu e.subj) := ⟨_, rfl⟩
  have HFN : Hid (upd fn (nameVal e.clu e.subj) (some (.pointer (some ⟨nb, 0, none⟩))) (nameVal e.clu e.subj) = some (.pointer (some ⟨nb, 0, none⟩))) := upd_same _ _ _
  rw [← hτ3] at hN3 hD
  rw [← hnb] at hN3 hD ⊢
  clear hnb hτ3 hbl hN1
  have cn0 : W3.cell? ⟨nb, 0, none⟩ = some (.slice none 0 0) := hD.row.cell (i := 0) (by omega)
  have cn1 : W3.cell? ⟨nb, 1, none⟩ = some (.int .i64 0) := hD.row.cell (i := 1) (by omega)
  go_wp2
  go_quiet (fail)
  have hN4 := hN3.drewN nq
  have hD4 : ND e τ3 nb (Value.slice none 0 0) 0 (ofNode K e.clu e.subj) (W3.drewN nq) := ⟨hD.tag, hD.row, hD.own, hD.tags⟩
  obtain ⟨W4, hW⟩ : ∃ t, t = W3.drewN nq := ⟨_, rfl⟩
  rw [← hW] at hN4 hD4 ⊢
  clear hW hN3 hD cn0 cn1
  obtain ⟨_, c5, z5, _, _, m0, m1, m2⟩ := hN4.facts
  have cn0 : W4.cell? ⟨nb, 0, none⟩ = some (Value.slice none 0 0) := hD4.row.cell (i := 0) (by omega)
  have cn1 : W4.cell? ⟨nb, 1, none⟩ = some (.int .i64 0) := hD4.row.cell (i := 1) (by omega)

  go_wp2
  go_quiet (fail)
  have hN5 := hN4.drewN nq
  have hD5 : ND e τ3 nb (Value.slice none 0 0) 0 (ofNode K e.clu e.subj) (W4.drewN nq) := ⟨hD4.tag, hD4.row, hD4.own, hD4.tags⟩
  obtain ⟨W5, hW⟩ : ∃ t, t = W4.drewN nq := ⟨_, rfl⟩
  rw [← hW] at hN5 hD5 ⊢
  clear hW hN4 hD4 cn0 cn1 c5 z5 m0 m1 m2
  have cn1 : W5.cell? ⟨nb, 1, none⟩ = some (.int .i64 0) := hD5.row.cell (i := 1) (by omega)
  have fn1 := hD5.row.frozen 1
  go_wp2
  clear cn1 fn1
  have hN6 := hN5.store hD5.tag 1 (.int .i64 1)
  have cn0 : (W5.setCell ⟨nb, 1, none⟩ (.int .i64 1)).cell? ⟨nb, 0, none⟩ = some (Value.slice none 0 0) := (hD5.row.set 1 _).cell (i := 0) (by omega)
  have hmne : nb ≠ mB := (hN5.ne (b := nb) (by rw [hD5.tag]; trivial)).2.1
  have hsne : nb ≠ sB := (hN5.ne (b := nb) (by rw [hD5.tag]; trivial)).1
  have hnlt : nb < W5.heap.size := hD5.row.lt
  have hvn : (Value.slice none 0 0).ownBlock ≠ some nb := fun e2 => by have := hD5.tags nb e2; rw [hD5.tag] at this; cases this
  have hvs : (Value.slice none 0 0).ownBlock ≠ some sB := fun e2 => by have := hD5.tags sB e2; rw [hN5.ts] at this; cases this
  obtain ⟨_, _, _, _, _, m0, m1, m2⟩ := hN6.facts
  have hsz : (W5.setCell ⟨nb, 1, none⟩ (.int .i64 1)).heap.size = W5.heap.size := by simp [World.setCell]
  have hown : ((W5.setCell ⟨nb, 1, none⟩ (.int .i64 1)).alloc (.cells #[.int .i64 (-62135596800), .bool true, .int .u8 e.role] 93)).drew.ownsRow 0 93 3 (Value.slice none 0 0) 0 ((ofNode K e.clu e.subj).flatMap markCells) := (owns_move hD5.own (fun g hg => Go.Deep.blk_setCell_other _ _ _ _ (fun e2 => hvn (by rw [hg]; exact congrArg some e2)))).alloc _
  have hsl : sB < W5.heap.size := hN5.row.lt
  have hN7 := hN6.alloc (.cells #[.int .i64 (-62135596800), .bool true, .int .u8 e.role] 93) .other
  obtain ⟨_, _, _, _, _, am0, am1, am2⟩ := hN7.facts
  have an0 : ((W5.setCell ⟨nb, 1, none⟩ (.int .i64 1)).alloc (.cells #[.int .i64 (-62135596800), .bool true, .int .u8 e.role] 93)).cell? ⟨nb, 0, none⟩ = some (Value.slice none 0 0) := ((hD5.row.set 1 _).alloc _).cell (i := 0) (by omega)
  have as5 : ((W5.setCell ⟨nb, 1, none⟩ (.int .i64 1)).alloc (.cells #[.int .i64 (-62135596800), .bool true, .int .u8 e.role] 93)).drew.cell? ⟨sB, 5, none⟩ = some (.int .i64 x.nl) := hN7.facts.2.1
  have az5 : ((W5.setCell ⟨nb, 1, none⟩ (.int .i64 1)).alloc (.cells #[.int .i64 (-62135596800), .bool true, .int .u8 e.role] 93)).drew.frozen? ⟨sB, 5, none⟩ = false := hN7.facts.2.2.1
  have anz : ((W5.setCell ⟨nb, 1, none⟩ (.int .i64 1)).alloc (.cells #[.int .i64 (-62135596800), .bool true, .int .u8 e.role] 93)).drew.frozen? ⟨nb, 0, none⟩ = false := ((hD5.row.set 1 _).alloc _).frozen 0
  obtain ⟨i0, hi0, hz0, hz1, hz2⟩ := info_parts Try.info93
  clear hN6 hN7
  go_region_law
    ((refine step_append_lies _ (by rfl) _ _ _ (by rfl) 0 93 i0 _ 3 16 Try.underlying97 hi0 hz0 hz1 hz2 rfl (by omega) (Value.slice none 0 0) 0 ((ofNode K e.clu e.subj).flatMap markCells) (by rfl) hown
        ⟨W5.heap.size, 0, none⟩ 1 1 [.int .i64 (-62135596800), .bool true, .int .u8 e.role] (by rfl) (by rfl) (World.news_of_block (cs := #[.int .i64 (-62135596800), .bool true, .int .u8 e.role]) (t := 93) (fr := (0, 0)) (by have := Go.Deep.blk_alloc_new (W5.setCell ⟨nb, 1, none⟩ (.int .i64 1)) (.cells #[.int .i64 (-62135596800), .bool true, .int .u8 e.role] 93); rw [hsz] at this; exact this)) (by simp [Value.oneCell'])
        (by omega) (by unfold maxLen; omega) (by omega) (by omega) (W5.heap.size + 1) (by simp [World.setCell, World.drew]) ?_; intro gg cap1 w6 hown6 hgrow hat hlt6
      have n0 : w6.cell? ⟨nb, 0, none⟩ = some (Value.slice none 0 0) := (hgrow.cell_far ⟨nb, 0, none⟩ (by simp [World.setCell, World.drew]; omega) (fun e2 => hvn e2.symm)).trans an0
      have nz : w6.frozen? ⟨nb, 0, none⟩ = false := (hgrow.frozen_far ⟨nb, 0, none⟩ (by simp [World.setCell, World.drew]; omega) (fun e2 => hvn e2.symm)).trans anz
      have s5 : w6.cell? ⟨sB, 5, none⟩ = some (.int .i64 x.nl) := (hgrow.cell_far ⟨sB, 5, none⟩ (by simp [World.setCell, World.drew]; omega) (fun e2 => hvs e2.symm)).trans as5
      have sz5 : w6.frozen? ⟨sB, 5, none⟩ = false := (hgrow.frozen_far ⟨sB, 5, none⟩ (by simp [World.setCell, World.drew]; omega) (fun e2 => hvs e2.symm)).trans az5))
  all_goals
    have hP := ND.next hN5 hD5 (by rw [hNE.out]; rfl) rfl HE.out.1 HE.out.2.1 HE.out.2.2 HFN.out _ hown6 hgrow hat
    clear hown6 hgrow hat hlt6
    go_wp2
    go_end0
    exact ⟨rfl, hP⟩

set_option maxRecDepth 100000 in
set_option maxHeartbeats 4000000 in
theorem nodeAdd_start_new (sB : Nat) (x : SV) (τ : Nat → Tag) (fn : Value → Option Value) (n : Nat) (K : List Ev) (e : Ev) (w : World) (hr : w.rowIs sB 45 11 (sv x)) (hk : Nodes τ x.nm fn n K w) (ts : τ sB = .other)
    (hc : e.clu.size ≤ maxLen) (hs : e.subj.size ≤ maxLen) (hl0 : 0 ≤ x.nl) (hl1 : x.nl ≤ 4096) (h1 : (e.typ.toList == kStarted) = true) (b : Nat) (hnm : Hid (x.nm = (some b))) (hfn : fn (nameVal e.clu e.subj) = none) :
    Calls Try.prog 27 #[.pointer (some ⟨sB, 4, none⟩), evtVal e] w fun r w' => r = .returned (.tuple #[]) ∧ NodePost sB x τ (n + 1) (K ++ [e]) w w' := by
  have HE : Hid (isNd e = true ∧ isSt e = true ∧ roleOf e = e.role) := ⟨by simp [isNd, h1], h1, by simp [roleOf, isSt, h1]⟩
  have hNE : Hid (ofNode K e.clu e.subj = []) := by
    rcases hk.at_ e.clu e.subj with ⟨_, h0⟩ | ⟨nb, v, h0, _⟩
    · exact h0
    · rw [hfn] at h0; cases h0
  have en := some29
  unfold evtVal
  go_enter Try.func27, Try.ntmps27
  go_wp2_with (go_at_call 33; refine (unix_any _).mono ?_; rintro r w1 ⟨rfl, hb1⟩; have hA : NA w τ x K e sB w.heap.size w1.heap.size false 0 (tagAt (tagAt τ w.heap.size .other) w1.heap.size .other) x.nm fn n (w1.alloc (.cells #[.int .i64 (-62135596800), .bool false, .int .u8 0] 93)) := NA.start hr hk ts hb1; rw [hnm.out] at hA; obtain ⟨q2, q3, q7, q8, q4, qz⟩ := hA.facts; obtain ⟨m1, m2, mz⟩ := hA.marks)
  have mz1 := mz 1
  have mz2 := mz 2
  have hem := hA.em
  obtain ⟨eB, heB⟩ : ∃ t, t = w.heap.size := ⟨_, rfl⟩
  obtain ⟨mB, hmB⟩ : ∃ t, t = w1.heap.size := ⟨_, rfl⟩
  obtain ⟨A, hAe⟩ : ∃ t, t = (w1.alloc (.cells #[.int .i64 (-62135596800), .bool false, .int .u8 0] 93)) := ⟨_, rfl⟩
  obtain ⟨τ1, hτ1⟩ : ∃ t, t = tagAt (tagAt τ w.heap.size .other) w1.heap.size .other := ⟨_, rfl⟩
  rw [← hAe] at hA q8 m1 m2 mz1 mz2 ⊢
  rw [← hτ1] at hA
  rw [← heB, ← hmB] at hA hem ⊢
  rw [← heB] at q8
  rw [← hmB] at m1 m2 mz1 mz2
  clear mz qz q2 q3 q7 q4 hAe hτ1 heB hmB hb1 w1
  have hS := (hA.started e.role).drew
  have k8 : (A.setCell ⟨mB, 1, none⟩ (.bool true)).cell? ⟨eB, 8, none⟩ = some (.int .u8 e.role) := (World.cell?_of_block (w := A) (Go.Deep.blk_setCell_other A _ _ _ (by simp; omega))).trans q8
  have k9 := hS.facts.2.2.2.1
  go_region_held3 (fun w' => w'.cell? ⟨eB, 8, none⟩ = some (.int .u8 e.role)) (first | exact q8 | exact k8 | exact k9) (fail)
  clear k8 k9 q8 m1 m2 mz1 mz2 hA hem
  obtain ⟨W, hW⟩ : ∃ t, t = ((A.setCell ⟨mB, 1, none⟩ (.bool true)).setCell ⟨mB, 2, none⟩ (.int .u8 e.role)).drew := ⟨_, rfl⟩
  rw [← hW] at hS ⊢
  clear hW
  have hA := hS
  clear hS
  obtain ⟨q2, q3, q7, q8, q4, qz⟩ := hA.facts
  clear qz q2 q8
  go_wp2
  have hN := hA.toNM

  clear hA q3 q7 q4 en
  obtain ⟨W0, hW⟩ : ∃ t, t = W.alloc (.cells #[.string e.clu, .string e.subj] 95) := ⟨_, rfl⟩
  obtain ⟨kB, hkB⟩ : ∃ t, t = W.heap.size := ⟨_, rfl⟩
  obtain ⟨τ2, hτ2⟩ : ∃ t, t = tagAt τ1 W.heap.size .other := ⟨_, rfl⟩
  rw [← hW, ← hτ2, ← hkB] at hN

  rw [← hW, ← hkB]
  clear hW hkB hτ2
  clear hr hk ts hnm
  have l1 := nodeLook hN hc hs (v := .pointer none) (by rw [hfn]; rfl)
  obtain ⟨c4, c5, z5, k0, k1, m0, m1, m2⟩ := hN.facts
  go_quiet (fail)
  clear l1 c4 c5 z5 k0 k1 m0 m1 m2
  have hN1 := hN.drewN nq
  obtain ⟨W1, hW⟩ : ∃ t, t = W0.drewN nq := ⟨_, rfl⟩
  rw [← hW] at hN1 ⊢

  clear hW hN
  have pn := pnil96
  go_wp2
  clear pn
  obtain ⟨kl, hkl⟩ := key95 e.clu e.subj hc hs
  have mp := hN1.map
  have hbl : b < W1.heap.size := MapF.lt mp
  have hN2 := (hN1.alloc (.cells #[.slice none 0 0, .int .i64 0] 99) (.node e.clu e.subj)).drew
  have mp2 : MapF Try.prog 95 (W1.alloc (.cells #[.slice none 0 0, .int .i64 0] 99)).drew b fn n := MapF.of_block mp (Go.Deep.blk_alloc_lt W1 _ _ hbl)
  obtain ⟨W3, hput, hm3, ht3⟩ := mp2.put_new keyed95 Try.underlying29 hkl hfn (.pointer (some ⟨W1.heap.size, 0, none⟩))
  have hN3 := hN2.put hm3 ht3
  have hrow3 : W3.rowIs W1.heap.size 99 2 (nv (.slice none 0 0) 0) := (World.rowIs_alloc W1 #[.slice none 0 0, .int .i64 0] 99 (nv (.slice none 0 0) 0) (fun i hi => match i, hi with | 0, _ => rfl | 1, _ => rfl)).of_block (ht3.block _ (by omega))
  have hD : ND e (tagAt τ2 W1.heap.size (.node e.clu e.subj)) W1.heap.size (.slice none 0 0) 0 (ofNode K e.clu e.subj) W3 := by
    rcases hNE.out with h0
    rw [h0]
    exact ⟨tagAt_same _ _ _, hrow3, World.ownsRow_nil _ _ _ _, fun g hg => by simp [Value.ownBlock] at hg⟩
  have hN1a := (hN1.alloc (.cells #[.slice none 0 0, .int .i64 0] 99) .other).facts
  obtain ⟨a4, _, _, ak0, ak1, _, _, _⟩ := hN1a
  obtain ⟨p4, _, _, pk0, pk1, _, _, _⟩ := hN3.facts
  go_region_held3 (fun w' => w'.cell? ⟨sB, 4, none⟩ = some (.map (some b)) ∧ w'.cell? ⟨kB, 0, none⟩ = some (.string e.clu) ∧ w'.cell? ⟨kB, 1, none⟩ = some (.string e.subj))
    (first | exact ⟨a4, ak0, ak1⟩ | exact ⟨p4, pk0, pk1⟩) (fail)
  clear a4 ak0 ak1 p4 pk0 pk1 hput hm3 ht3 mp mp2 hN2 hrow3 hkl
  obtain ⟨nb, hnb⟩ : ∃ t, t = W1.heap.size := ⟨_, rfl⟩
  obtain ⟨τ3, hτ3⟩ : ∃ t, t = tagAt τ2 W1.heap.size (.node e.clu e.subj) := ⟨_, rfl⟩
  have HFN : Hid (upd fn (nameVal e.clu e.subj) (some (.pointer (some ⟨nb, 0, none⟩))) (nameVal e.clu e.subj) = some (.pointer (some ⟨nb, 0, none⟩))) := upd_same _ _ _
  rw [← hτ3] at hN3 hD
  rw [← hnb] at hN3 hD ⊢
  clear hnb hτ3 hbl hN1
  have cn0 : W3.cell? ⟨nb, 0, none⟩ = some (.slice none 0 0) := hD.row.cell (i := 0) (by omega)
  have cn1 : W3.cell? ⟨nb, 1, none⟩ = some (.int .i64 0) := hD.row.cell (i := 1) (by omega)
  go_wp2
  go_quiet (fail)
  have hN4 := hN3.drewN nq
  have hD4 : ND e τ3 nb (Value.slice none 0 0) 0 (ofNode K e.clu e.subj) (W3.drewN nq) := ⟨hD.tag, hD.row, hD.own, hD.tags⟩
  obtain ⟨W4, hW⟩ : ∃ t, t = W3.drewN nq := ⟨_, rfl⟩
  rw [← hW] at hN4 hD4 ⊢
  clear hW hN3 hD cn0 cn1
  obtain ⟨_, c5, z5, _, _, m0, m1, m2⟩ := hN4.facts
  have cn0 : W4.cell? ⟨nb, 0, none⟩ = some (Value.slice none 0 0) := hD4.row.cell (i := 0) (by omega)
  have cn1 : W4.cell? ⟨nb, 1, none⟩ = some (.int .i64 0) := hD4.row.cell (i := 1) (by omega)

  go_wp2
  go_quiet (fail)
  have hN5 := hN4.drewN nq
  have hD5 : ND e τ3 nb (Value.slice none 0 0) 0 (ofNode K e.clu e.subj) (W4.drewN nq) := ⟨hD4.tag, hD4.row, hD4.own, hD4.tags⟩
  obtain ⟨W5, hW⟩ : ∃ t, t = W4.drewN nq := ⟨_, rfl⟩
  rw [← hW] at hN5 hD5 ⊢
  clear hW hN4 hD4 cn0 cn1 c5 z5 m0 m1 m2
  have cn1 : W5.cell? ⟨nb, 1, none⟩ = some (.int .i64 0) := hD5.row.cell (i := 1) (by omega)
  have fn1 := hD5.row.frozen 1
  go_wp2
  clear cn1 fn1
  have hN6 := hN5.store hD5.tag 1 (.int .i64 1)
  have cn0 : (W5.setCell ⟨nb, 1, none⟩ (.int .i64 1)).cell? ⟨nb, 0, none⟩ = some (Value.slice none 0 0) := (hD5.row.set 1 _).cell (i := 0) (by omega)
  have hmne : nb ≠ mB := (hN5.ne (b := nb) (by rw [hD5.tag]; trivial)).2.1
  have hsne : nb ≠ sB := (hN5.ne (b := nb) (by rw [hD5.tag]; trivial)).1
  have hnlt : nb < W5.heap.size := hD5.row.lt
  have hvn : (Value.slice none 0 0).ownBlock ≠ some nb := fun e2 => by have := hD5.tags nb e2; rw [hD5.tag] at this; cases this
  have hvs : (Value.slice none 0 0).ownBlock ≠ some sB := fun e2 => by have := hD5.tags sB e2; rw [hN5.ts] at this; cases this
  obtain ⟨_, _, _, _, _, m0, m1, m2⟩ := hN6.facts
  have hsz : (W5.setCell ⟨nb, 1, none⟩ (.int .i64 1)).heap.size = W5.heap.size := by simp [World.setCell]
  have hown : ((W5.setCell ⟨nb, 1, none⟩ (.int .i64 1)).alloc (.cells #[.int .i64 (-62135596800), .bool true, .int .u8 e.role] 93)).drew.ownsRow 0 93 3 (Value.slice none 0 0) 0 ((ofNode K e.clu e.subj).flatMap markCells) := (owns_move hD5.own (fun g hg => Go.Deep.blk_setCell_other _ _ _ _ (fun e2 => hvn (by rw [hg]; exact congrArg some e2)))).alloc _
  have hsl : sB < W5.heap.size := hN5.row.lt
  have hN7 := hN6.alloc (.cells #[.int .i64 (-62135596800), .bool true, .int .u8 e.role] 93) .other
  obtain ⟨_, _, _, _, _, am0, am1, am2⟩ := hN7.facts
  have an0 : ((W5.setCell ⟨nb, 1, none⟩ (.int .i64 1)).alloc (.cells #[.int .i64 (-62135596800), .bool true, .int .u8 e.role] 93)).cell? ⟨nb, 0, none⟩ = some (Value.slice none 0 0) := ((hD5.row.set 1 _).alloc _).cell (i := 0) (by omega)
  have as5 : ((W5.setCell ⟨nb, 1, none⟩ (.int .i64 1)).alloc (.cells #[.int .i64 (-62135596800), .bool true, .int .u8 e.role] 93)).drew.cell? ⟨sB, 5, none⟩ = some (.int .i64 x.nl) := hN7.facts.2.1
  have az5 : ((W5.setCell ⟨nb, 1, none⟩ (.int .i64 1)).alloc (.cells #[.int .i64 (-62135596800), .bool true, .int .u8 e.role] 93)).drew.frozen? ⟨sB, 5, none⟩ = false := hN7.facts.2.2.1
  have anz : ((W5.setCell ⟨nb, 1, none⟩ (.int .i64 1)).alloc (.cells #[.int .i64 (-62135596800), .bool true, .int .u8 e.role] 93)).drew.frozen? ⟨nb, 0, none⟩ = false := ((hD5.row.set 1 _).alloc _).frozen 0
  obtain ⟨i0, hi0, hz0, hz1, hz2⟩ := info_parts Try.info93
  clear hN6 hN7
  go_region_law
    ((refine step_append_lies _ (by rfl) _ _ _ (by rfl) 0 93 i0 _ 3 16 Try.underlying97 hi0 hz0 hz1 hz2 rfl (by omega) (Value.slice none 0 0) 0 ((ofNode K e.clu e.subj).flatMap markCells) (by rfl) hown
        ⟨W5.heap.size, 0, none⟩ 1 1 [.int .i64 (-62135596800), .bool true, .int .u8 e.role] (by rfl) (by rfl) (World.news_of_block (cs := #[.int .i64 (-62135596800), .bool true, .int .u8 e.role]) (t := 93) (fr := (0, 0)) (by have := Go.Deep.blk_alloc_new (W5.setCell ⟨nb, 1, none⟩ (.int .i64 1)) (.cells #[.int .i64 (-62135596800), .bool true, .int .u8 e.role] 93); rw [hsz] at this; exact this)) (by simp [Value.oneCell'])
        (by omega) (by unfold maxLen; omega) (by omega) (by omega) (W5.heap.size + 1) (by simp [World.setCell, World.drew]) ?_; intro gg cap1 w6 hown6 hgrow hat hlt6
      have n0 : w6.cell? ⟨nb, 0, none⟩ = some (Value.slice none 0 0) := (hgrow.cell_far ⟨nb, 0, none⟩ (by simp [World.setCell, World.drew]; omega) (fun e2 => hvn e2.symm)).trans an0
      have nz : w6.frozen? ⟨nb, 0, none⟩ = false := (hgrow.frozen_far ⟨nb, 0, none⟩ (by simp [World.setCell, World.drew]; omega) (fun e2 => hvn e2.symm)).trans anz
      have s5 : w6.cell? ⟨sB, 5, none⟩ = some (.int .i64 x.nl) := (hgrow.cell_far ⟨sB, 5, none⟩ (by simp [World.setCell, World.drew]; omega) (fun e2 => hvs e2.symm)).trans as5
      have sz5 : w6.frozen? ⟨sB, 5, none⟩ = false := (hgrow.frozen_far ⟨sB, 5, none⟩ (by simp [World.setCell, World.drew]; omega) (fun e2 => hvs e2.symm)).trans az5))
  all_goals
    have hP := ND.next hN5 hD5 (by rw [hNE.out]; rfl) rfl HE.out.1 HE.out.2.1 HE.out.2.2 HFN.out _ hown6 hgrow hat
    clear hown6 hgrow hat hlt6
    go_wp2
    go_end0
    exact ⟨rfl, hP⟩

set_option maxRecDepth 100000 in
set_option maxHeartbeats 4000000 in
theorem nodeAdd_start_old (sB : Nat) (x : SV) (τ : Nat → Tag) (fn : Value → Option Value) (n : Nat) (K : List Ev) (e : Ev) (w : World) (hr : w.rowIs sB 45 11 (sv x)) (hk : Nodes τ x.nm fn n K w) (ts : τ sB = .other)
    (hc : e.clu.size ≤ maxLen) (hs : e.subj.size ≤ maxLen) (hl0 : 0 ≤ x.nl) (hl1 : x.nl ≤ 4096) (hlen : (ofNode K e.clu e.subj).length ≤ 4096) (h1 : (e.typ.toList == kStarted) = true) (b : Nat) (hnm : Hid (x.nm = (some b))) (hfn : (fn (nameVal e.clu e.subj)).isNone = false) :
    Calls Try.prog 27 #[.pointer (some ⟨sB, 4, none⟩), evtVal e] w fun r w' => r = .returned (.tuple #[]) ∧ NodePost sB x τ n (K ++ [e]) w w' := by
  have HE : Hid (isNd e = true ∧ isSt e = true ∧ roleOf e = e.role) := ⟨by simp [isNd, h1], h1, by simp [roleOf, isSt, h1]⟩
  have en := some29
  unfold evtVal
  go_enter Try.func27, Try.ntmps27
  go_wp2_with (go_at_call 33; refine (unix_any _).mono ?_; rintro r w1 ⟨rfl, hb1⟩; have hA : NA w τ x K e sB w.heap.size w1.heap.size false 0 (tagAt (tagAt τ w.heap.size .other) w1.heap.size .other) x.nm fn n (w1.alloc (.cells #[.int .i64 (-62135596800), .bool false, .int .u8 0] 93)) := NA.start hr hk ts hb1; rw [hnm.out] at hA; obtain ⟨q2, q3, q7, q8, q4, qz⟩ := hA.facts; obtain ⟨m1, m2, mz⟩ := hA.marks)
  have mz1 := mz 1
  have mz2 := mz 2
  have hem := hA.em
  obtain ⟨eB, heB⟩ : ∃ t, t = w.heap.size := ⟨_, rfl⟩
  obtain ⟨mB, hmB⟩ : ∃ t, t = w1.heap.size := ⟨_, rfl⟩
  obtain ⟨A, hAe⟩ : ∃ t, t = (w1.alloc (.cells #[.int .i64 (-62135596800), .bool false, .int .u8 0] 93)) := ⟨_, rfl⟩
  obtain ⟨τ1, hτ1⟩ : ∃ t, t = tagAt (tagAt τ w.heap.size .other) w1.heap.size .other := ⟨_, rfl⟩
  rw [← hAe] at hA q8 m1 m2 mz1 mz2 ⊢
  rw [← hτ1] at hA
  rw [← heB, ← hmB] at hA hem ⊢
  rw [← heB] at q8
  rw [← hmB] at m1 m2 mz1 mz2
  clear mz qz q2 q3 q7 q4 hAe hτ1 heB hmB hb1 w1
  have hS := (hA.started e.role).drew
  have k8 : (A.setCell ⟨mB, 1, none⟩ (.bool true)).cell? ⟨eB, 8, none⟩ = some (.int .u8 e.role) := (World.cell?_of_block (w := A) (Go.Deep.blk_setCell_other A _ _ _ (by simp; omega))).trans q8
  have k9 := hS.facts.2.2.2.1
  go_region_held3 (fun w' => w'.cell? ⟨eB, 8, none⟩ = some (.int .u8 e.role)) (first | exact q8 | exact k8 | exact k9) (fail)
  clear k8 k9 q8 m1 m2 mz1 mz2 hA hem
  obtain ⟨W, hW⟩ : ∃ t, t = ((A.setCell ⟨mB, 1, none⟩ (.bool true)).setCell ⟨mB, 2, none⟩ (.int .u8 e.role)).drew := ⟨_, rfl⟩
  rw [← hW] at hS ⊢
  clear hW
  have hA := hS
  clear hS
  obtain ⟨q2, q3, q7, q8, q4, qz⟩ := hA.facts
  clear qz q2 q8
  go_wp2
  have hN := hA.toNM
  have hAt := (hA.alloc (.cells #[.string e.clu, .string e.subj] 95) .other).nodes.at_ e.clu e.subj
  clear hA q3 q7 q4 en
  obtain ⟨W0, hW⟩ : ∃ t, t = W.alloc (.cells #[.string e.clu, .string e.subj] 95) := ⟨_, rfl⟩
  obtain ⟨kB, hkB⟩ : ∃ t, t = W.heap.size := ⟨_, rfl⟩
  obtain ⟨τ2, hτ2⟩ : ∃ t, t = tagAt τ1 W.heap.size .other := ⟨_, rfl⟩
  rw [← hW, ← hτ2, ← hkB] at hN
  rw [← hW, ← hτ2] at hAt
  rw [← hW, ← hkB]
  clear hW hkB hτ2
  clear hr hk ts hnm
  obtain ⟨nb, g, cap, l, hfn', HL0, HLL, hD0⟩ : ∃ nb g cap l, fn (nameVal e.clu e.subj) = some (.pointer (some ⟨nb, 0, none⟩)) ∧ Hid (0 < l) ∧ Hid ((ofNode K e.clu e.subj).length = l) ∧ ND e τ2 nb (.slice (some ⟨g, 0, none⟩) l cap) l (ofNode K e.clu e.subj) W0 := by
    rcases hAt with ⟨h0, _⟩ | ⟨nb, v, h0, hne, htag, hrow, hown, htags⟩
    · rw [h0] at hfn; cases hfn
    · have hpos : 0 < (ofNode K e.clu e.subj).length := List.length_pos_iff.2 hne
      obtain ⟨g, cap, rfl, _, _⟩ := hown.form hpos
      exact ⟨nb, g, cap, _, h0, hpos, rfl, htag, hrow, hown, htags⟩
  have hl4 : l ≤ 4096 := by rw [← HLL.out]; exact hlen
  have hlp : 0 < l := HL0.out
  have hlz : ((l : Int) == 0) = false := by simp; omega
  have HFN : Hid (fn (nameVal e.clu e.subj) = some (.pointer (some ⟨nb, 0, none⟩))) := hfn'
  clear hAt hfn hlen
  have l1 := nodeLook hN hc hs (v := .pointer (some ⟨nb, 0, none⟩)) (by rw [hfn']; rfl)
  obtain ⟨c4, c5, z5, k0, k1, m0, m1, m2⟩ := hN.facts
  go_quiet (fail)
  clear l1 c4 c5 z5 k0 k1 m0 m1 m2
  have hN1 := hN.drewN nq
  obtain ⟨W1, hW⟩ : ∃ t, t = W0.drewN nq := ⟨_, rfl⟩
  rw [← hW] at hN1 ⊢
  have HW : Hid (W1 = W0.drewN nq) := hW
  clear hW hN
  have hN3 := hN1
  have hD : ND e τ2 nb (.slice (some ⟨g, 0, none⟩) l cap) l (ofNode K e.clu e.subj) W1 := by rw [HW.out]; exact ⟨hD0.tag, hD0.row, hD0.own, hD0.tags⟩
  have cn0 : W1.cell? ⟨nb, 0, none⟩ = some (.slice (some ⟨g, 0, none⟩) l cap) := hD.row.cell (i := 0) (by omega)
  have cn1 : W1.cell? ⟨nb, 1, none⟩ = some (.int .i64 (l : Int)) := hD.row.cell (i := 1) (by omega)
  have ccell := last_cell hD rfl HL0.out HLL.out
  have pn := psome96
  clear hN1 HW hD0
  go_wp2
  go_quiet (fail)
  have hN4 := hN3.drewN nq
  have hD4 : ND e τ2 nb (Value.slice (some ⟨g, 0, none⟩) l cap) l (ofNode K e.clu e.subj) (W1.drewN nq) := ⟨hD.tag, hD.row, hD.own, hD.tags⟩
  obtain ⟨W4, hW⟩ : ∃ t, t = W1.drewN nq := ⟨_, rfl⟩
  rw [← hW] at hN4 hD4 ⊢
  clear hW hN3 hD cn0 cn1 ccell
  obtain ⟨_, c5, z5, _, _, m0, m1, m2⟩ := hN4.facts
  have cn0 : W4.cell? ⟨nb, 0, none⟩ = some (Value.slice (some ⟨g, 0, none⟩) l cap) := hD4.row.cell (i := 0) (by omega)
  have cn1 : W4.cell? ⟨nb, 1, none⟩ = some (.int .i64 (l : Int)) := hD4.row.cell (i := 1) (by omega)
  have ccell := last_cell hD4 rfl HL0.out HLL.out
  go_wp2
  go_quiet (fail)
  have hN5 := hN4.drewN nq
  have hD5 : ND e τ2 nb (Value.slice (some ⟨g, 0, none⟩) l cap) l (ofNode K e.clu e.subj) (W4.drewN nq) := ⟨hD4.tag, hD4.row, hD4.own, hD4.tags⟩
  obtain ⟨W5, hW⟩ : ∃ t, t = W4.drewN nq := ⟨_, rfl⟩
  rw [← hW] at hN5 hD5 ⊢
  clear hW hN4 hD4 cn0 cn1 c5 z5 m0 m1 m2 ccell
  have cn1 : W5.cell? ⟨nb, 1, none⟩ = some (.int .i64 (l : Int)) := hD5.row.cell (i := 1) (by omega)
  have fn1 := hD5.row.frozen 1
  go_wp2
  clear cn1 fn1
  have hN6 := hN5.store hD5.tag 1 (.int .i64 ((l : Int) + 1))
  have cn0 : (W5.setCell ⟨nb, 1, none⟩ (.int .i64 ((l : Int) + 1))).cell? ⟨nb, 0, none⟩ = some (Value.slice (some ⟨g, 0, none⟩) l cap) := (hD5.row.set 1 _).cell (i := 0) (by omega)
  have hmne : nb ≠ mB := (hN5.ne (b := nb) (by rw [hD5.tag]; trivial)).2.1
  have hsne : nb ≠ sB := (hN5.ne (b := nb) (by rw [hD5.tag]; trivial)).1
  have hnlt : nb < W5.heap.size := hD5.row.lt
  have hvn : (Value.slice (some ⟨g, 0, none⟩) l cap).ownBlock ≠ some nb := fun e2 => by have := hD5.tags nb e2; rw [hD5.tag] at this; cases this
  have hvs : (Value.slice (some ⟨g, 0, none⟩) l cap).ownBlock ≠ some sB := fun e2 => by have := hD5.tags sB e2; rw [hN5.ts] at this; cases this
  obtain ⟨_, _, _, _, _, m0, m1, m2⟩ := hN6.facts
  have hsz : (W5.setCell ⟨nb, 1, none⟩ (.int .i64 ((l : Int) + 1))).heap.size = W5.heap.size := by simp [World.setCell]
  have hown : ((W5.setCell ⟨nb, 1, none⟩ (.int .i64 ((l : Int) + 1))).alloc (.cells #[.int .i64 (-62135596800), .bool true, .int .u8 e.role] 93)).drew.ownsRow 0 93 3 (Value.slice (some ⟨g, 0, none⟩) l cap) l ((ofNode K e.clu e.subj).flatMap markCells) := (owns_move hD5.own (fun g hg => Go.Deep.blk_setCell_other _ _ _ _ (fun e2 => hvn (by rw [hg]; exact congrArg some e2)))).alloc _
  have hsl : sB < W5.heap.size := hN5.row.lt
  have hN7 := hN6.alloc (.cells #[.int .i64 (-62135596800), .bool true, .int .u8 e.role] 93) .other
  obtain ⟨_, _, _, _, _, am0, am1, am2⟩ := hN7.facts
  have an0 : ((W5.setCell ⟨nb, 1, none⟩ (.int .i64 ((l : Int) + 1))).alloc (.cells #[.int .i64 (-62135596800), .bool true, .int .u8 e.role] 93)).cell? ⟨nb, 0, none⟩ = some (Value.slice (some ⟨g, 0, none⟩) l cap) := ((hD5.row.set 1 _).alloc _).cell (i := 0) (by omega)
  have as5 : ((W5.setCell ⟨nb, 1, none⟩ (.int .i64 ((l : Int) + 1))).alloc (.cells #[.int .i64 (-62135596800), .bool true, .int .u8 e.role] 93)).drew.cell? ⟨sB, 5, none⟩ = some (.int .i64 x.nl) := hN7.facts.2.1
  have az5 : ((W5.setCell ⟨nb, 1, none⟩ (.int .i64 ((l : Int) + 1))).alloc (.cells #[.int .i64 (-62135596800), .bool true, .int .u8 e.role] 93)).drew.frozen? ⟨sB, 5, none⟩ = false := hN7.facts.2.2.1
  have anz : ((W5.setCell ⟨nb, 1, none⟩ (.int .i64 ((l : Int) + 1))).alloc (.cells #[.int .i64 (-62135596800), .bool true, .int .u8 e.role] 93)).drew.frozen? ⟨nb, 0, none⟩ = false := ((hD5.row.set 1 _).alloc _).frozen 0
  obtain ⟨i0, hi0, hz0, hz1, hz2⟩ := info_parts Try.info93
  clear hN6 hN7
  go_region_law
    ((refine step_append_lies _ (by rfl) _ _ _ (by rfl) 0 93 i0 _ 3 16 Try.underlying97 hi0 hz0 hz1 hz2 rfl (by omega) (Value.slice (some ⟨g, 0, none⟩) l cap) l ((ofNode K e.clu e.subj).flatMap markCells) (by rfl) hown
        ⟨W5.heap.size, 0, none⟩ 1 1 [.int .i64 (-62135596800), .bool true, .int .u8 e.role] (by rfl) (by rfl) (World.news_of_block (cs := #[.int .i64 (-62135596800), .bool true, .int .u8 e.role]) (t := 93) (fr := (0, 0)) (by have := Go.Deep.blk_alloc_new (W5.setCell ⟨nb, 1, none⟩ (.int .i64 ((l : Int) + 1))) (.cells #[.int .i64 (-62135596800), .bool true, .int .u8 e.role] 93); rw [hsz] at this; exact this)) (by simp [Value.oneCell'])
        (by omega) (by unfold maxLen; omega) (by omega) (by omega) (W5.heap.size + 1) (by simp [World.setCell, World.drew]) ?_; intro gg cap1 w6 hown6 hgrow hat hlt6
      have n0 : w6.cell? ⟨nb, 0, none⟩ = some (Value.slice (some ⟨g, 0, none⟩) l cap) := (hgrow.cell_far ⟨nb, 0, none⟩ (by simp [World.setCell, World.drew]; omega) (fun e2 => hvn e2.symm)).trans an0
      have nz : w6.frozen? ⟨nb, 0, none⟩ = false := (hgrow.frozen_far ⟨nb, 0, none⟩ (by simp [World.setCell, World.drew]; omega) (fun e2 => hvn e2.symm)).trans anz
      have s5 : w6.cell? ⟨sB, 5, none⟩ = some (.int .i64 x.nl) := (hgrow.cell_far ⟨sB, 5, none⟩ (by simp [World.setCell, World.drew]; omega) (fun e2 => hvs e2.symm)).trans as5
      have sz5 : w6.frozen? ⟨sB, 5, none⟩ = false := (hgrow.frozen_far ⟨sB, 5, none⟩ (by simp [World.setCell, World.drew]; omega) (fun e2 => hvs e2.symm)).trans az5))
  all_goals
    have hP := ND.next hN5 hD5 HLL.out rfl HE.out.1 HE.out.2.1 HE.out.2.2 HFN.out _ hown6 hgrow hat
    clear hown6 hgrow hat hlt6
    go_wp2
    go_end0
    exact ⟨rfl, hP⟩

set_option maxRecDepth 100000 in
set_option maxHeartbeats 4000000 in
theorem nodeAdd_stop_nil (sB : Nat) (x : SV) (τ : Nat → Tag) (fn : Value → Option Value) (n : Nat) (K : List Ev) (e : Ev) (w : World) (hr : w.rowIs sB 45 11 (sv x)) (hk : Nodes τ x.nm fn n K w) (ts : τ sB = .other)
    (hc : e.clu.size ≤ maxLen) (hs : e.subj.size ≤ maxLen) (hl0 : 0 ≤ x.nl) (hl1 : x.nl ≤ 4096) (h1 : (e.typ.toList == kStarted) = false) (h2 : (e.typ.toList == kStopped) = true) (hnm : Hid (x.nm = none)) :
    Calls Try.prog 27 #[.pointer (some ⟨sB, 4, none⟩), evtVal e] w fun r w' => r = .returned (.tuple #[]) ∧ NodePost sB x τ (n + 1) (K ++ [e]) w w' := by
  have HE : Hid (isNd e = true ∧ isSt e = false ∧ roleOf e = 0) := ⟨by simp [isNd, h1, h2], h1, by simp [roleOf, isSt, h1]⟩
  have hfn : fn (nameVal e.clu e.subj) = none := by
    have := hk.map
    rw [hnm.out] at this
    exact this.1 _
  have hNE : Hid (ofNode K e.clu e.subj = []) := by
    rcases hk.at_ e.clu e.subj with ⟨_, h0⟩ | ⟨nb, v, h0, _⟩
    · exact h0
    · rw [hfn] at h0; cases h0
  have en := nil29
  have mk := @run_makeMap Try.prog
  unfold evtVal
  go_enter Try.func27, Try.ntmps27
  go_wp2_with (go_at_call 33; refine (unix_any _).mono ?_; rintro r w1 ⟨rfl, hb1⟩; have hA : NA w τ x K e sB w.heap.size w1.heap.size false 0 (tagAt (tagAt τ w.heap.size .other) w1.heap.size .other) x.nm fn n (w1.alloc (.cells #[.int .i64 (-62135596800), .bool false, .int .u8 0] 93)) := NA.start hr hk ts hb1; rw [hnm.out] at hA; obtain ⟨q2, q3, q7, q8, q4, qz⟩ := hA.facts; have hAl := (hA.alloc (.map #[] 0) .other).facts; have r4 := hAl.2.2.2.2.1; have r5 := hAl.2.2.2.2.2 4; have hB := hA.mkNodes; have s3 := hB.facts.2.1; have s7 := hB.facts.2.2.1)
  have hsA : (w1.alloc (.cells #[.int .i64 (-62135596800), .bool false, .int .u8 0] 93)).heap.size = w1.heap.size + 1 := Go.Deep.nblk_alloc _ _
  have hN := hB.toNM
  have hsz : (((w1.alloc (.cells #[.int .i64 (-62135596800), .bool false, .int .u8 0] 93)).alloc (.map #[] 0)).setCell ⟨sB, 4, none⟩ (.map (some (w1.heap.size + 1)))).heap.size = w1.heap.size + 2 := by simp [World.setCell]
  rw [hsA] at hN
  rw [hsz] at hN
  clear r4 r5 s3 s7 hAl hB hA q2 q3 q7 q4 q8 qz en mk hsz hsA
  obtain ⟨W0, hW⟩ : ∃ t, t = (((w1.alloc (.cells #[.int .i64 (-62135596800), .bool false, .int .u8 0] 93)).alloc (.map #[] 0)).setCell ⟨sB, 4, none⟩ (.map (some (w1.heap.size + 1)))).alloc (.cells #[.string e.clu, .string e.subj] 95) := ⟨_, rfl⟩
  obtain ⟨kB, hkB⟩ : ∃ t, t = w1.heap.size + 2 := ⟨_, rfl⟩
  obtain ⟨b, hb⟩ : ∃ t, t = w1.heap.size + 1 := ⟨_, rfl⟩
  obtain ⟨mB, hmB⟩ : ∃ t, t = w1.heap.size := ⟨_, rfl⟩
  obtain ⟨τ2, hτ2⟩ : ∃ t, t = tagAt (tagAt (tagAt (tagAt τ w.heap.size .other) w1.heap.size .other) (w1.heap.size + 1) .nodes) (w1.heap.size + 2) .other := ⟨_, rfl⟩
  rw [← hW, ← hτ2, ← hkB, ← hb, ← hmB] at hN
  rw [← hW, ← hkB, ← hmB]
  clear hW hkB hb hmB hτ2 hb1 w1
  clear hr hk ts hnm
  have l1 := nodeLook hN hc hs (v := .pointer none) (by rw [hfn]; rfl)
  obtain ⟨c4, c5, z5, k0, k1, m0, m1, m2⟩ := hN.facts
  go_quiet (fail)
  clear l1 c4 c5 z5 k0 k1 m0 m1 m2
  have hN1 := hN.drewN nq
  obtain ⟨W1, hW⟩ : ∃ t, t = W0.drewN nq := ⟨_, rfl⟩
  rw [← hW] at hN1 ⊢

  clear hW hN
  have pn := pnil96
  go_wp2
  clear pn
  obtain ⟨kl, hkl⟩ := key95 e.clu e.subj hc hs
  have mp := hN1.map
  have hbl : b < W1.heap.size := MapF.lt mp
  have hN2 := (hN1.alloc (.cells #[.slice none 0 0, .int .i64 0] 99) (.node e.clu e.subj)).drew
  have mp2 : MapF Try.prog 95 (W1.alloc (.cells #[.slice none 0 0, .int .i64 0] 99)).drew b fn n := MapF.of_block mp (Go.Deep.blk_alloc_lt W1 _ _ hbl)
  obtain ⟨W3, hput, hm3, ht3⟩ := mp2.put_new keyed95 Try.underlying29 hkl hfn (.pointer (some ⟨W1.heap.size, 0, none⟩))
  have hN3 := hN2.put hm3 ht3
  have hrow3 : W3.rowIs W1.heap.size 99 2 (nv (.slice none 0 0) 0) := (World.rowIs_alloc W1 #[.slice none 0 0, .int .i64 0] 99 (nv (.slice none 0 0) 0) (fun i hi => match i, hi with | 0, _ => rfl | 1, _ => rfl)).of_block (ht3.block _ (by omega))
  have hD : ND e (tagAt τ2 W1.heap.size (.node e.clu e.subj)) W1.heap.size (.slice none 0 0) 0 (ofNode K e.clu e.subj) W3 := by
    rcases hNE.out with h0
    rw [h0]
    exact ⟨tagAt_same _ _ _, hrow3, World.ownsRow_nil _ _ _ _, fun g hg => by simp [Value.ownBlock] at hg⟩
  have hN1a := (hN1.alloc (.cells #[.slice none 0 0, .int .i64 0] 99) .other).facts
  obtain ⟨a4, _, _, ak0, ak1, _, _, _⟩ := hN1a
  obtain ⟨p4, _, _, pk0, pk1, _, _, _⟩ := hN3.facts
  go_region_held3 (fun w' => w'.cell? ⟨sB, 4, none⟩ = some (.map (some b)) ∧ w'.cell? ⟨kB, 0, none⟩ = some (.string e.clu) ∧ w'.cell? ⟨kB, 1, none⟩ = some (.string e.subj))
    (first | exact ⟨a4, ak0, ak1⟩ | exact ⟨p4, pk0, pk1⟩) (fail)
  clear a4 ak0 ak1 p4 pk0 pk1 hput hm3 ht3 mp mp2 hN2 hrow3 hkl
  obtain ⟨nb, hnb⟩ : ∃ t, t = W1.heap.size := ⟨_, rfl⟩
  obtain ⟨τ3, hτ3⟩ : ∃ t, t = tagAt τ2 W1.heap.size (.node e.clu e.subj) := ⟨_, rfl⟩
  have HFN : Hid (upd fn (nameVal e.clu e.subj) (some (.pointer (some ⟨nb, 0, none⟩))) (nameVal e.clu e.subj) = some (.pointer (some ⟨nb, 0, none⟩))) := upd_same _ _ _
  rw [← hτ3] at hN3 hD
  rw [← hnb] at hN3 hD ⊢
  clear hnb hτ3 hbl hN1
  have cn0 : W3.cell? ⟨nb, 0, none⟩ = some (.slice none 0 0) := hD.row.cell (i := 0) (by omega)
  have cn1 : W3.cell? ⟨nb, 1, none⟩ = some (.int .i64 0) := hD.row.cell (i := 1) (by omega)
  go_wp2
  go_quiet (fail)
  have hN4 := hN3.drewN nq
  have hD4 : ND e τ3 nb (Value.slice none 0 0) 0 (ofNode K e.clu e.subj) (W3.drewN nq) := ⟨hD.tag, hD.row, hD.own, hD.tags⟩
  obtain ⟨W4, hW⟩ : ∃ t, t = W3.drewN nq := ⟨_, rfl⟩
  rw [← hW] at hN4 hD4 ⊢
  clear hW hN3 hD cn0 cn1
  obtain ⟨_, c5, z5, _, _, m0, m1, m2⟩ := hN4.facts
  have cn0 : W4.cell? ⟨nb, 0, none⟩ = some (Value.slice none 0 0) := hD4.row.cell (i := 0) (by omega)
  have cn1 : W4.cell? ⟨nb, 1, none⟩ = some (.int .i64 0) := hD4.row.cell (i := 1) (by omega)

  go_wp2
  go_quiet (fail)
  have hN5 := hN4.drewN nq
  have hD5 : ND e τ3 nb (Value.slice none 0 0) 0 (ofNode K e.clu e.subj) (W4.drewN nq) := ⟨hD4.tag, hD4.row, hD4.own, hD4.tags⟩
  obtain ⟨W5, hW⟩ : ∃ t, t = W4.drewN nq := ⟨_, rfl⟩
  rw [← hW] at hN5 hD5 ⊢
  clear hW hN4 hD4 cn0 cn1 c5 z5 m0 m1 m2
  have cn1 : W5.cell? ⟨nb, 1, none⟩ = some (.int .i64 0) := hD5.row.cell (i := 1) (by omega)
  have fn1 := hD5.row.frozen 1
  go_wp2
  clear cn1 fn1
  have hN6 := hN5.store hD5.tag 1 (.int .i64 1)
  have cn0 : (W5.setCell ⟨nb, 1, none⟩ (.int .i64 1)).cell? ⟨nb, 0, none⟩ = some (Value.slice none 0 0) := (hD5.row.set 1 _).cell (i := 0) (by omega)
  have hmne : nb ≠ mB := (hN5.ne (b := nb) (by rw [hD5.tag]; trivial)).2.1
  have hsne : nb ≠ sB := (hN5.ne (b := nb) (by rw [hD5.tag]; trivial)).1
  have hnlt : nb < W5.heap.size := hD5.row.lt
  have hvn : (Value.slice none 0 0).ownBlock ≠ some nb := fun e2 => by have := hD5.tags nb e2; rw [hD5.tag] at this; cases this
  have hvs : (Value.slice none 0 0).ownBlock ≠ some sB := fun e2 => by have := hD5.tags sB e2; rw [hN5.ts] at this; cases this
  obtain ⟨_, _, _, _, _, m0, m1, m2⟩ := hN6.facts
  have hsz : (W5.setCell ⟨nb, 1, none⟩ (.int .i64 1)).heap.size = W5.heap.size := by simp [World.setCell]
  have hown : ((W5.setCell ⟨nb, 1, none⟩ (.int .i64 1)).alloc (.cells #[.int .i64 (-62135596800), .bool false, .int .u8 0] 93)).drew.ownsRow 0 93 3 (Value.slice none 0 0) 0 ((ofNode K e.clu e.subj).flatMap markCells) := (owns_move hD5.own (fun g hg => Go.Deep.blk_setCell_other _ _ _ _ (fun e2 => hvn (by rw [hg]; exact congrArg some e2)))).alloc _
  have hsl : sB < W5.heap.size := hN5.row.lt
  have hN7 := hN6.alloc (.cells #[.int .i64 (-62135596800), .bool false, .int .u8 0] 93) .other
  obtain ⟨_, _, _, _, _, am0, am1, am2⟩ := hN7.facts
  have an0 : ((W5.setCell ⟨nb, 1, none⟩ (.int .i64 1)).alloc (.cells #[.int .i64 (-62135596800), .bool false, .int .u8 0] 93)).cell? ⟨nb, 0, none⟩ = some (Value.slice none 0 0) := ((hD5.row.set 1 _).alloc _).cell (i := 0) (by omega)
  have as5 : ((W5.setCell ⟨nb, 1, none⟩ (.int .i64 1)).alloc (.cells #[.int .i64 (-62135596800), .bool false, .int .u8 0] 93)).drew.cell? ⟨sB, 5, none⟩ = some (.int .i64 x.nl) := hN7.facts.2.1
  have az5 : ((W5.setCell ⟨nb, 1, none⟩ (.int .i64 1)).alloc (.cells #[.int .i64 (-62135596800), .bool false, .int .u8 0] 93)).drew.frozen? ⟨sB, 5, none⟩ = false := hN7.facts.2.2.1
  have anz : ((W5.setCell ⟨nb, 1, none⟩ (.int .i64 1)).alloc (.cells #[.int .i64 (-62135596800), .bool false, .int .u8 0] 93)).drew.frozen? ⟨nb, 0, none⟩ = false := ((hD5.row.set 1 _).alloc _).frozen 0
  obtain ⟨i0, hi0, hz0, hz1, hz2⟩ := info_parts Try.info93
  clear hN6 hN7
  go_region_law
    ((refine step_append_lies _ (by rfl) _ _ _ (by rfl) 0 93 i0 _ 3 16 Try.underlying97 hi0 hz0 hz1 hz2 rfl (by omega) (Value.slice none 0 0) 0 ((ofNode K e.clu e.subj).flatMap markCells) (by rfl) hown
        ⟨W5.heap.size, 0, none⟩ 1 1 [.int .i64 (-62135596800), .bool false, .int .u8 0] (by rfl) (by rfl) (World.news_of_block (cs := #[.int .i64 (-62135596800), .bool false, .int .u8 0]) (t := 93) (fr := (0, 0)) (by have := Go.Deep.blk_alloc_new (W5.setCell ⟨nb, 1, none⟩ (.int .i64 1)) (.cells #[.int .i64 (-62135596800), .bool false, .int .u8 0] 93); rw [hsz] at this; exact this)) (by simp [Value.oneCell'])
        (by omega) (by unfold maxLen; omega) (by omega) (by omega) (W5.heap.size + 1) (by simp [World.setCell, World.drew]) ?_; intro gg cap1 w6 hown6 hgrow hat hlt6
      have n0 : w6.cell? ⟨nb, 0, none⟩ = some (Value.slice none 0 0) := (hgrow.cell_far ⟨nb, 0, none⟩ (by simp [World.setCell, World.drew]; omega) (fun e2 => hvn e2.symm)).trans an0
      have nz : w6.frozen? ⟨nb, 0, none⟩ = false := (hgrow.frozen_far ⟨nb, 0, none⟩ (by simp [World.setCell, World.drew]; omega) (fun e2 => hvn e2.symm)).trans anz
      have s5 : w6.cell? ⟨sB, 5, none⟩ = some (.int .i64 x.nl) := (hgrow.cell_far ⟨sB, 5, none⟩ (by simp [World.setCell, World.drew]; omega) (fun e2 => hvs e2.symm)).trans as5
      have sz5 : w6.frozen? ⟨sB, 5, none⟩ = false := (hgrow.frozen_far ⟨sB, 5, none⟩ (by simp [World.setCell, World.drew]; omega) (fun e2 => hvs e2.symm)).trans az5))
  all_goals
    have hP := ND.next hN5 hD5 (by rw [hNE.out]; rfl) rfl HE.out.1 HE.out.2.1 HE.out.2.2 HFN.out _ hown6 hgrow hat
    clear hown6 hgrow hat hlt6
    go_wp2
    go_end0
    exact ⟨rfl, hP⟩

set_option maxRecDepth 100000 in
set_option maxHeartbeats 4000000 in
theorem nodeAdd_stop_new (sB : Nat) (x : SV) (τ : Nat → Tag) (fn : Value → Option Value) (n : Nat) (K : List Ev) (e : Ev) (w : World) (hr : w.rowIs sB 45 11 (sv x)) (hk : Nodes τ x.nm fn n K w) (ts : τ sB = .other)
    (hc : e.clu.size ≤ maxLen) (hs : e.subj.size ≤ maxLen) (hl0 : 0 ≤ x.nl) (hl1 : x.nl ≤ 4096) (h1 : (e.typ.toList == kStarted) = false) (h2 : (e.typ.toList == kStopped) = true) (b : Nat) (hnm : Hid (x.nm = (some b))) (hfn : fn (nameVal e.clu e.subj) = none) :
    Calls Try.prog 27 #[.pointer (some ⟨sB, 4, none⟩), evtVal e] w fun r w' => r = .returned (.tuple #[]) ∧ NodePost sB x τ (n + 1) (K ++ [e]) w w' := by
  have HE : Hid (isNd e = true ∧ isSt e = false ∧ roleOf e = 0) := ⟨by simp [isNd, h1, h2], h1, by simp [roleOf, isSt, h1]⟩
  have hNE : Hid (ofNode K e.clu e.subj = []) := by
    rcases hk.at_ e.clu e.subj with ⟨_, h0⟩ | ⟨nb, v, h0, _⟩
    · exact h0
    · rw [hfn] at h0; cases h0
  have en := some29
  unfold evtVal
  go_enter Try.func27, Try.ntmps27
  go_wp2_with (go_at_call 33; refine (unix_any _).mono ?_; rintro r w1 ⟨rfl, hb1⟩; have hA : NA w τ x K e sB w.heap.size w1.heap.size false 0 (tagAt (tagAt τ w.heap.size .other) w1.heap.size .other) x.nm fn n (w1.alloc (.cells #[.int .i64 (-62135596800), .bool false, .int .u8 0] 93)) := NA.start hr hk ts hb1; rw [hnm.out] at hA; obtain ⟨q2, q3, q7, q8, q4, qz⟩ := hA.facts)
  have hN := hA.toNM

  have hsz : (w1.alloc (.cells #[.int .i64 (-62135596800), .bool false, .int .u8 0] 93)).heap.size = w1.heap.size + 1 := Go.Deep.nblk_alloc _ _
  rw [hsz] at hN
  clear hA q2 q3 q7 q4 q8 qz en hsz
  obtain ⟨W0, hW⟩ : ∃ t, t = (w1.alloc (.cells #[.int .i64 (-62135596800), .bool false, .int .u8 0] 93)).alloc (.cells #[.string e.clu, .string e.subj] 95) := ⟨_, rfl⟩
  obtain ⟨kB, hkB⟩ : ∃ t, t = w1.heap.size + 1 := ⟨_, rfl⟩
  obtain ⟨mB, hmB⟩ : ∃ t, t = w1.heap.size := ⟨_, rfl⟩
  obtain ⟨τ2, hτ2⟩ : ∃ t, t = tagAt (tagAt (tagAt τ w.heap.size .other) w1.heap.size .other) (w1.heap.size + 1) .other := ⟨_, rfl⟩
  rw [← hW, ← hτ2, ← hkB, ← hmB] at hN

  rw [← hW, ← hkB, ← hmB]
  clear hW hkB hmB hτ2 hb1 w1
  clear hr hk ts hnm
  have l1 := nodeLook hN hc hs (v := .pointer none) (by rw [hfn]; rfl)
  obtain ⟨c4, c5, z5, k0, k1, m0, m1, m2⟩ := hN.facts
  go_quiet (fail)
  clear l1 c4 c5 z5 k0 k1 m0 m1 m2
  have hN1 := hN.drewN nq
  obtain ⟨W1, hW⟩ : ∃ t, t = W0.drewN nq := ⟨_, rfl⟩
  rw [← hW] at hN1 ⊢

  clear hW hN
  have pn := pnil96
  go_wp2
  clear pn
  obtain ⟨kl, hkl⟩ := key95 e.clu e.subj hc hs
  have mp := hN1.map
  have hbl : b < W1.heap.size := MapF.lt mp
  have hN2 := (hN1.alloc (.cells #[.slice none 0 0, .int .i64 0] 99) (.node e.clu e.subj)).drew
  have mp2 : MapF Try.prog 95 (W1.alloc (.cells #[.slice none 0 0, .int .i64 0] 99)).drew b fn n := MapF.of_block mp (Go.Deep.blk_alloc_lt W1 _ _ hbl)
  obtain ⟨W3, hput, hm3, ht3⟩ := mp2.put_new keyed95 Try.underlying29 hkl hfn (.pointer (some ⟨W1.heap.size, 0, none⟩))
  have hN3 := hN2.put hm3 ht3
  have hrow3 : W3.rowIs W1.heap.size 99 2 (nv (.slice none 0 0) 0) := (World.rowIs_alloc W1 #[.slice none 0 0, .int .i64 0] 99 (nv (.slice none 0 0) 0) (fun i hi => match i, hi with | 0, _ => rfl | 1, _ => rfl)).of_block (ht3.block _ (by omega))
  have hD : ND e (tagAt τ2 W1.heap.size (.node e.clu e.subj)) W1.heap.size (.slice none 0 0) 0 (ofNode K e.clu e.subj) W3 := by
    rcases hNE.out with h0
    rw [h0]
    exact ⟨tagAt_same _ _ _, hrow3, World.ownsRow_nil _ _ _ _, fun g hg => by simp [Value.ownBlock] at hg⟩
  have hN1a := (hN1.alloc (.cells #[.slice none 0 0, .int .i64 0] 99) .other).facts
  obtain ⟨a4, _, _, ak0, ak1, _, _, _⟩ := hN1a
  obtain ⟨p4, _, _, pk0, pk1, _, _, _⟩ := hN3.facts
  go_region_held3 (fun w' => w'.cell? ⟨sB, 4, none⟩ = some (.map (some b)) ∧ w'.cell? ⟨kB, 0, none⟩ = some (.string e.clu) ∧ w'.cell? ⟨kB, 1, none⟩ = some (.string e.subj))
    (first | exact ⟨a4, ak0, ak1⟩ | exact ⟨p4, pk0, pk1⟩) (fail)
  clear a4 ak0 ak1 p4 pk0 pk1 hput hm3 ht3 mp mp2 hN2 hrow3 hkl
  obtain ⟨nb, hnb⟩ : ∃ t, t = W1.heap.size := ⟨_, rfl⟩
  obtain ⟨τ3, hτ3⟩ : ∃ t, t = tagAt τ2 W1.heap.size (.node e.clu e.subj) := ⟨_, rfl⟩
  have HFN : Hid (upd fn (nameVal e.clu e.subj) (some (.pointer (some ⟨nb, 0, none⟩))) (nameVal e.clu e.subj) = some (.pointer (some ⟨nb, 0, none⟩))) := upd_same _ _ _
  rw [← hτ3] at hN3 hD
  rw [← hnb] at hN3 hD ⊢
  clear hnb hτ3 hbl hN1
  have cn0 : W3.cell? ⟨nb, 0, none⟩ = some (.slice none 0 0) := hD.row.cell (i := 0) (by omega)
  have cn1 : W3.cell? ⟨nb, 1, none⟩ = some (.int .i64 0) := hD.row.cell (i := 1) (by omega)
  go_wp2
  go_quiet (fail)
  have hN4 := hN3.drewN nq
  have hD4 : ND e τ3 nb (Value.slice none 0 0) 0 (ofNode K e.clu e.subj) (W3.drewN nq) := ⟨hD.tag, hD.row, hD.own, hD.tags⟩
  obtain ⟨W4, hW⟩ : ∃ t, t = W3.drewN nq := ⟨_, rfl⟩
  rw [← hW] at hN4 hD4 ⊢
  clear hW hN3 hD cn0 cn1
  obtain ⟨_, c5, z5, _, _, m0, m1, m2⟩ := hN4.facts
  have cn0 : W4.cell? ⟨nb, 0, none⟩ = some (Value.slice none 0 0) := hD4.row.cell (i := 0) (by omega)
  have cn1 : W4.cell? ⟨nb, 1, none⟩ = some (.int .i64 0) := hD4.row.cell (i := 1) (by omega)

  go_wp2
  go_quiet (fail)
  have hN5 := hN4.drewN nq
  have hD5 : ND e τ3 nb (Value.slice none 0 0) 0 (ofNode K e.clu e.subj) (W4.drewN nq) := ⟨hD4.tag, hD4.row, hD4.own, hD4.tags⟩
  obtain ⟨W5, hW⟩ : ∃ t, t = W4.drewN nq := ⟨_, rfl⟩
  rw [← hW] at hN5 hD5 ⊢
  clear hW hN4 hD4 cn0 cn1 c5 z5 m0 m1 m2
  have cn1 : W5.cell? ⟨nb, 1, none⟩ = some (.int .i64 0) := hD5.row.cell (i := 1) (by omega)
  have fn1 := hD5.row.frozen 1
  go_wp2
  clear cn1 fn1
  have hN6 := hN5.store hD5.tag 1 (.int .i64 1)
  have cn0 : (W5.setCell ⟨nb, 1, none⟩ (.int .i64 1)).cell? ⟨nb, 0, none⟩ = some (Value.slice none 0 0) := (hD5.row.set 1 _).cell (i := 0) (by omega)
  have hmne : nb ≠ mB := (hN5.ne (b := nb) (by rw [hD5.tag]; trivial)).2.1
  have hsne : nb ≠ sB := (hN5.ne (b := nb) (by rw [hD5.tag]; trivial)).1
  have hnlt : nb < W5.heap.size := hD5.row.lt
  have hvn : (Value.slice none 0 0).ownBlock ≠ some nb := fun e2 => by have := hD5.tags nb e2; rw [hD5.tag] at this; cases this
  have hvs : (Value.slice none 0 0).ownBlock ≠ some sB := fun e2 => by have := hD5.tags sB e2; rw [hN5.ts] at this; cases this
  obtain ⟨_, _, _, _, _, m0, m1, m2⟩ := hN6.facts
  have hsz : (W5.setCell ⟨nb, 1, none⟩ (.int .i64 1)).heap.size = W5.heap.size := by simp [World.setCell]
  have hown : ((W5.setCell ⟨nb, 1, none⟩ (.int .i64 1)).alloc (.cells #[.int .i64 (-62135596800), .bool false, .int .u8 0] 93)).drew.ownsRow 0 93 3 (Value.slice none 0 0) 0 ((ofNode K e.clu e.subj).flatMap markCells) := (owns_move hD5.own (fun g hg => Go.Deep.blk_setCell_other _ _ _ _ (fun e2 => hvn (by rw [hg]; exact congrArg some e2)))).alloc _
  have hsl : sB < W5.heap.size := hN5.row.lt
  have hN7 := hN6.alloc (.cells #[.int .i64 (-62135596800), .bool false, .int .u8 0] 93) .other
  obtain ⟨_, _, _, _, _, am0, am1, am2⟩ := hN7.facts
  have an0 : ((W5.setCell ⟨nb, 1, none⟩ (.int .i64 1)).alloc (.cells #[.int .i64 (-62135596800), .bool false, .int .u8 0] 93)).cell? ⟨nb, 0, none⟩ = some (Value.slice none 0 0) := ((hD5.row.set 1 _).alloc _).cell (i := 0) (by omega)
  have as5 : ((W5.setCell ⟨nb, 1, none⟩ (.int .i64 1)).alloc (.cells #[.int .i64 (-62135596800), .bool false, .int .u8 0] 93)).drew.cell? ⟨sB, 5, none⟩ = some (.int .i64 x.nl) := hN7.facts.2.1
  have az5 : ((W5.setCell ⟨nb, 1, none⟩ (.int .i64 1)).alloc (.cells #[.int .i64 (-62135596800), .bool false, .int .u8 0] 93)).drew.frozen? ⟨sB, 5, none⟩ = false := hN7.facts.2.2.1
  have anz : ((W5.setCell ⟨nb, 1, none⟩ (.int .i64 1)).alloc (.cells #[.int .i64 (-62135596800), .bool false, .int .u8 0] 93)).drew.frozen? ⟨nb, 0, none⟩ = false := ((hD5.row.set 1 _).alloc _).frozen 0
  obtain ⟨i0, hi0, hz0, hz1, hz2⟩ := info_parts Try.info93
  clear hN6 hN7
  go_region_law
    ((refine step_append_lies _ (by rfl) _ _ _ (by rfl) 0 93 i0 _ 3 16 Try.underlying97 hi0 hz0 hz1 hz2 rfl (by omega) (Value.slice none 0 0) 0 ((ofNode K e.clu e.subj).flatMap markCells) (by rfl) hown
        ⟨W5.heap.size, 0, none⟩ 1 1 [.int .i64 (-62135596800), .bool false, .int .u8 0] (by rfl) (by rfl) (World.news_of_block (cs := #[.int .i64 (-62135596800), .bool false, .int .u8 0]) (t := 93) (fr := (0, 0)) (by have := Go.Deep.blk_alloc_new (W5.setCell ⟨nb, 1, none⟩ (.int .i64 1)) (.cells #[.int .i64 (-62135596800), .bool false, .int .u8 0] 93); rw [hsz] at this; exact this)) (by simp [Value.oneCell'])
        (by omega) (by unfold maxLen; omega) (by omega) (by omega) (W5.heap.size + 1) (by simp [World.setCell, World.drew]) ?_; intro gg cap1 w6 hown6 hgrow hat hlt6
      have n0 : w6.cell? ⟨nb, 0, none⟩ = some (Value.slice none 0 0) := (hgrow.cell_far ⟨nb, 0, none⟩ (by simp [World.setCell, World.drew]; omega) (fun e2 => hvn e2.symm)).trans an0
      have nz : w6.frozen? ⟨nb, 0, none⟩ = false := (hgrow.frozen_far ⟨nb, 0, none⟩ (by simp [World.setCell, World.drew]; omega) (fun e2 => hvn e2.symm)).trans anz
      have s5 : w6.cell? ⟨sB, 5, none⟩ = some (.int .i64 x.nl) := (hgrow.cell_far ⟨sB, 5, none⟩ (by simp [World.setCell, World.drew]; omega) (fun e2 => hvs e2.symm)).trans as5
      have sz5 : w6.frozen? ⟨sB, 5, none⟩ = false := (hgrow.frozen_far ⟨sB, 5, none⟩ (by simp [World.setCell, World.drew]; omega) (fun e2 => hvs e2.symm)).trans az5))
  all_goals
    have hP := ND.next hN5 hD5 (by rw [hNE.out]; rfl) rfl HE.out.1 HE.out.2.1 HE.out.2.2 HFN.out _ hown6 hgrow hat
    clear hown6 hgrow hat hlt6
    go_wp2
    go_end0
    exact ⟨rfl, hP⟩

set_option maxRecDepth 100000 in
set_option maxHeartbeats 4000000 in
theorem nodeAdd_stop_old (sB : Nat) (x : SV) (τ : Nat → Tag) (fn : Value → Option Value) (n : Nat) (K : List Ev) (e : Ev) (w : World) (hr : w.rowIs sB 45 11 (sv x)) (hk : Nodes τ x.nm fn n K w) (ts : τ sB = .other)
    (hc : e.clu.size ≤ maxLen) (hs : e.subj.size ≤ maxLen) (hl0 : 0 ≤ x.nl) (hl1 : x.nl ≤ 4096) (hlen : (ofNode K e.clu e.subj).length ≤ 4096) (h1 : (e.typ.toList == kStarted) = false) (h2 : (e.typ.toList == kStopped) = true) (b : Nat) (hnm : Hid (x.nm = (some b))) (hfn : (fn (nameVal e.clu e.subj)).isNone = false) :
    Calls Try.prog 27 #[.pointer (some ⟨sB, 4, none⟩), evtVal e] w fun r w' => r = .returned (.tuple #[]) ∧ NodePost sB x τ n (K ++ [e]) w w' := by
  have HE : Hid (isNd e = true ∧ isSt e = false ∧ roleOf e = 0) := ⟨by simp [isNd, h1, h2], h1, by simp [roleOf, isSt, h1]⟩
  have en := some29
  unfold evtVal
  go_enter Try.func27, Try.ntmps27
  go_wp2_with (go_at_call 33; refine (unix_any _).mono ?_; rintro r w1 ⟨rfl, hb1⟩; have hA : NA w τ x K e sB w.heap.size w1.heap.size false 0 (tagAt (tagAt τ w.heap.size .other) w1.heap.size .other) x.nm fn n (w1.alloc (.cells #[.int .i64 (-62135596800), .bool false, .int .u8 0] 93)) := NA.start hr hk ts hb1; rw [hnm.out] at hA; obtain ⟨q2, q3, q7, q8, q4, qz⟩ := hA.facts)
  have hN := hA.toNM
  have hAt := (hA.alloc (.cells #[.string e.clu, .string e.subj] 95) .other).nodes.at_ e.clu e.subj
  have hsz : (w1.alloc (.cells #[.int .i64 (-62135596800), .bool false, .int .u8 0] 93)).heap.size = w1.heap.size + 1 := Go.Deep.nblk_alloc _ _
  rw [hsz] at hN hAt
  clear hA q2 q3 q7 q4 q8 qz en hsz
  obtain ⟨W0, hW⟩ : ∃ t, t = (w1.alloc (.cells #[.int .i64 (-62135596800), .bool false, .int .u8 0] 93)).alloc (.cells #[.string e.clu, .string e.subj] 95) := ⟨_, rfl⟩
  obtain ⟨kB, hkB⟩ : ∃ t, t = w1.heap.size + 1 := ⟨_, rfl⟩
  obtain ⟨mB, hmB⟩ : ∃ t, t = w1.heap.size := ⟨_, rfl⟩
  obtain ⟨τ2, hτ2⟩ : ∃ t, t = tagAt (tagAt (tagAt τ w.heap.size .other) w1.heap.size .other) (w1.heap.size + 1) .other := ⟨_, rfl⟩
  rw [← hW, ← hτ2, ← hkB, ← hmB] at hN
  rw [← hW, ← hτ2] at hAt
  rw [← hW, ← hkB, ← hmB]
  clear hW hkB hmB hτ2 hb1 w1
  clear hr hk ts hnm
  obtain ⟨nb, g, cap, l, hfn', HL0, HLL, hD0⟩ : ∃ nb g cap l, fn (nameVal e.clu e.subj) = some (.pointer (some ⟨nb, 0, none⟩)) ∧ Hid (0 < l) ∧ Hid ((ofNode K e.clu e.subj).length = l) ∧ ND e τ2 nb (.slice (some ⟨g, 0, none⟩) l cap) l (ofNode K e.clu e.subj) W0 := by
    rcases hAt with ⟨h0, _⟩ | ⟨nb, v, h0, hne, htag, hrow, hown, htags⟩
    · rw [h0] at hfn; cases hfn
    · have hpos : 0 < (ofNode K e.clu e.subj).length := List.length_pos_iff.2 hne
      obtain ⟨g, cap, rfl, _, _⟩ := hown.form hpos
      exact ⟨nb, g, cap, _, h0, hpos, rfl, htag, hrow, hown, htags⟩
  have hl4 : l ≤ 4096 := by rw [← HLL.out]; exact hlen
  have hlp : 0 < l := HL0.out
  have hlz : ((l : Int) == 0) = false := by simp; omega
  have HFN : Hid (fn (nameVal e.clu e.subj) = some (.pointer (some ⟨nb, 0, none⟩))) := hfn'
  clear hAt hfn hlen
  have l1 := nodeLook hN hc hs (v := .pointer (some ⟨nb, 0, none⟩)) (by rw [hfn']; rfl)
  obtain ⟨c4, c5, z5, k0, k1, m0, m1, m2⟩ := hN.facts
  go_quiet (fail)
  clear l1 c4 c5 z5 k0 k1 m0 m1 m2
  have hN1 := hN.drewN nq
  obtain ⟨W1, hW⟩ : ∃ t, t = W0.drewN nq := ⟨_, rfl⟩
  rw [← hW] at hN1 ⊢
  have HW : Hid (W1 = W0.drewN nq) := hW
  clear hW hN
  have hN3 := hN1
  have hD : ND e τ2 nb (.slice (some ⟨g, 0, none⟩) l cap) l (ofNode K e.clu e.subj) W1 := by rw [HW.out]; exact ⟨hD0.tag, hD0.row, hD0.own, hD0.tags⟩
  have cn0 : W1.cell? ⟨nb, 0, none⟩ = some (.slice (some ⟨g, 0, none⟩) l cap) := hD.row.cell (i := 0) (by omega)
  have cn1 : W1.cell? ⟨nb, 1, none⟩ = some (.int .i64 (l : Int)) := hD.row.cell (i := 1) (by omega)
  have ccell := last_cell hD rfl HL0.out HLL.out
  have pn := psome96
  clear hN1 HW hD0
  go_wp2
  go_quiet (fail)
  have hN4 := hN3.drewN nq
  have hD4 : ND e τ2 nb (Value.slice (some ⟨g, 0, none⟩) l cap) l (ofNode K e.clu e.subj) (W1.drewN nq) := ⟨hD.tag, hD.row, hD.own, hD.tags⟩
  obtain ⟨W4, hW⟩ : ∃ t, t = W1.drewN nq := ⟨_, rfl⟩
  rw [← hW] at hN4 hD4 ⊢
  clear hW hN3 hD cn0 cn1 ccell
  obtain ⟨_, c5, z5, _, _, m0, m1, m2⟩ := hN4.facts
  have cn0 : W4.cell? ⟨nb, 0, none⟩ = some (Value.slice (some ⟨g, 0, none⟩) l cap) := hD4.row.cell (i := 0) (by omega)
  have cn1 : W4.cell? ⟨nb, 1, none⟩ = some (.int .i64 (l : Int)) := hD4.row.cell (i := 1) (by omega)
  have ccell := last_cell hD4 rfl HL0.out HLL.out
  go_wp2
  go_quiet (fail)
  have hN5 := hN4.drewN nq
  have hD5 : ND e τ2 nb (Value.slice (some ⟨g, 0, none⟩) l cap) l (ofNode K e.clu e.subj) (W4.drewN nq) := ⟨hD4.tag, hD4.row, hD4.own, hD4.tags⟩
  obtain ⟨W5, hW⟩ : ∃ t, t = W4.drewN nq := ⟨_, rfl⟩
  rw [← hW] at hN5 hD5 ⊢
  clear hW hN4 hD4 cn0 cn1 c5 z5 m0 m1 m2 ccell
  have cn1 : W5.cell? ⟨nb, 1, none⟩ = some (.int .i64 (l : Int)) := hD5.row.cell (i := 1) (by omega)
  have fn1 := hD5.row.frozen 1
  go_wp2
  clear cn1 fn1
  have hN6 := hN5.store hD5.tag 1 (.int .i64 ((l : Int) + 1))
  have cn0 : (W5.setCell ⟨nb, 1, none⟩ (.int .i64 ((l : Int) + 1))).cell? ⟨nb, 0, none⟩ = some (Value.slice (some ⟨g, 0, none⟩) l cap) := (hD5.row.set 1 _).cell (i := 0) (by omega)
  have hmne : nb ≠ mB := (hN5.ne (b := nb) (by rw [hD5.tag]; trivial)).2.1
  have hsne : nb ≠ sB := (hN5.ne (b := nb) (by rw [hD5.tag]; trivial)).1
  have hnlt : nb < W5.heap.size := hD5.row.lt
  have hvn : (Value.slice (some ⟨g, 0, none⟩) l cap).ownBlock ≠ some nb := fun e2 => by have := hD5.tags nb e2; rw [hD5.tag] at this; cases this
  have hvs : (Value.slice (some ⟨g, 0, none⟩) l cap).ownBlock ≠ some sB := fun e2 => by have := hD5.tags sB e2; rw [hN5.ts] at this; cases this
  obtain ⟨_, _, _, _, _, m0, m1, m2⟩ := hN6.facts
  have hsz : (W5.setCell ⟨nb, 1, none⟩ (.int .i64 ((l : Int) + 1))).heap.size = W5.heap.size := by simp [World.setCell]
  have hown : ((W5.setCell ⟨nb, 1, none⟩ (.int .i64 ((l : Int) + 1))).alloc (.cells #[.int .i64 (-62135596800), .bool false, .int .u8 0] 93)).drew.ownsRow 0 93 3 (Value.slice (some ⟨g, 0, none⟩) l cap) l ((ofNode K e.clu e.subj).flatMap markCells) := (owns_move hD5.own (fun g hg => Go.Deep.blk_setCell_other _ _ _ _ (fun e2 => hvn (by rw [hg]; exact congrArg some e2)))).alloc _
  have hsl : sB < W5.heap.size := hN5.row.lt
  have hN7 := hN6.alloc (.cells #[.int .i64 (-62135596800), .bool false, .int .u8 0] 93) .other
  obtain ⟨_, _, _, _, _, am0, am1, am2⟩ := hN7.facts
  have an0 : ((W5.setCell ⟨nb, 1, none⟩ (.int .i64 ((l : Int) + 1))).alloc (.cells #[.int .i64 (-62135596800), .bool false, .int .u8 0] 93)).cell? ⟨nb, 0, none⟩ = some (Value.slice (some ⟨g, 0, none⟩) l cap) := ((hD5.row.set 1 _).alloc _).cell (i := 0) (by omega)
  have as5 : ((W5.setCell ⟨nb, 1, none⟩ (.int .i64 ((l : Int) + 1))).alloc (.cells #[.int .i64 (-62135596800), .bool false, .int .u8 0] 93)).drew.cell? ⟨sB, 5, none⟩ = some (.int .i64 x.nl) := hN7.facts.2.1
  have az5 : ((W5.setCell ⟨nb, 1, none⟩ (.int .i64 ((l : Int) + 1))).alloc (.cells #[.int .i64 (-62135596800), .bool false, .int .u8 0] 93)).drew.frozen? ⟨sB, 5, none⟩ = false := hN7.facts.2.2.1
  have anz : ((W5.setCell ⟨nb, 1, none⟩ (.int .i64 ((l : Int) + 1))).alloc (.cells #[.int .i64 (-62135596800), .bool false, .int .u8 0] 93)).drew.frozen? ⟨nb, 0, none⟩ = false := ((hD5.row.set 1 _).alloc _).frozen 0
  obtain ⟨i0, hi0, hz0, hz1, hz2⟩ := info_parts Try.info93
  clear hN6 hN7
  go_region_law
    ((refine step_append_lies _ (by rfl) _ _ _ (by rfl) 0 93 i0 _ 3 16 Try.underlying97 hi0 hz0 hz1 hz2 rfl (by omega) (Value.slice (some ⟨g, 0, none⟩) l cap) l ((ofNode K e.clu e.subj).flatMap markCells) (by rfl) hown
        ⟨W5.heap.size, 0, none⟩ 1 1 [.int .i64 (-62135596800), .bool false, .int .u8 0] (by rfl) (by rfl) (World.news_of_block (cs := #[.int .i64 (-62135596800), .bool false, .int .u8 0]) (t := 93) (fr := (0, 0)) (by have := Go.Deep.blk_alloc_new (W5.setCell ⟨nb, 1, none⟩ (.int .i64 ((l : Int) + 1))) (.cells #[.int .i64 (-62135596800), .bool false, .int .u8 0] 93); rw [hsz] at this; exact this)) (by simp [Value.oneCell'])
        (by omega) (by unfold maxLen; omega) (by omega) (by omega) (W5.heap.size + 1) (by simp [World.setCell, World.drew]) ?_; intro gg cap1 w6 hown6 hgrow hat hlt6
      have n0 : w6.cell? ⟨nb, 0, none⟩ = some (Value.slice (some ⟨g, 0, none⟩) l cap) := (hgrow.cell_far ⟨nb, 0, none⟩ (by simp [World.setCell, World.drew]; omega) (fun e2 => hvn e2.symm)).trans an0
      have nz : w6.frozen? ⟨nb, 0, none⟩ = false := (hgrow.frozen_far ⟨nb, 0, none⟩ (by simp [World.setCell, World.drew]; omega) (fun e2 => hvn e2.symm)).trans anz
      have s5 : w6.cell? ⟨sB, 5, none⟩ = some (.int .i64 x.nl) := (hgrow.cell_far ⟨sB, 5, none⟩ (by simp [World.setCell, World.drew]; omega) (fun e2 => hvs e2.symm)).trans as5
      have sz5 : w6.frozen? ⟨sB, 5, none⟩ = false := (hgrow.frozen_far ⟨sB, 5, none⟩ (by simp [World.setCell, World.drew]; omega) (fun e2 => hvs e2.symm)).trans az5))
  all_goals
    have hP := ND.next hN5 hD5 HLL.out rfl HE.out.1 HE.out.2.1 HE.out.2.2 HFN.out _ hown6 hgrow hat
    clear hown6 hgrow hat hlt6
    go_wp2
    go_end0
    exact ⟨rfl, hP⟩

end Go.Proofs.Qxb6603530a
