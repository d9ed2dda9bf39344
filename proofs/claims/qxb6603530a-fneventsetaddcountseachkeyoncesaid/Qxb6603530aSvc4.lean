import Derived.Test.Qxb6603530aSvc3
namespace Go.Proofs.Qxb6603530a
open Go.ChangeShapes Go.WideShapes Go.ChangeAt Go.RowKit
open MapV

set_option maxRecDepth 100000 in
set_option maxHeartbeats 4000000 in
theorem svcAdd_dep (sB : Nat) (x : SV) (τ : Nat → Tag) (fs : Value → Option Value) (n : Nat) (K : List Ev) (e : Ev) (w : World) (hr : w.rowIs sB 45 11 (sv x)) (hk : Svcs τ x.sm fs n x.ex K w) (ts : τ sB = .other)
    (hs : e.subj.size ≤ maxLen) (hlen : Hid (K.length ≤ 4096)) (h1 : (e.typ.toList == kDeployed) = true) :
    Calls Try.prog 28 #[.pointer (some ⟨sB, 9, none⟩), evtVal e] w fun r w' => r = .returned (.tuple #[]) ∧ SvcPost sB x τ (nextN (nDep K e.subj + nIns K e.subj) n) (K ++ [e]) w w' := by
  have HX : Hid (isEx e = false ∧ isDep e = true ∧ isIns e = false) := kinds_dep e h1
  have hev := evc_row w e
  have hS : SM w τ x K e.subj sB (tagAt τ w.heap.size .other) x.sm fs n (w.alloc (.cells (evArr e) 56)) := (SM.start hr hk ts).alloc _ _
  have hat : SvcAt (tagAt τ w.heap.size .other) (fs (.string e.subj)) e.subj (nDep K e.subj) (nIns K e.subj) (w.alloc (.cells (evArr e) 56)) := (hk.at_ e.subj).move (fun k hk => tagAt_other _ _ (by omega)) (fun k hk _ => Go.Deep.blk_alloc_lt _ _ _ hk)
  have hsb := hr.lt
  have HS : Hid (SM w τ x K e.subj sB (tagAt τ w.heap.size .other) x.sm fs n (w.alloc (.cells (evArr e) 56)) ∧ SvcAt (tagAt τ w.heap.size .other) (fs (.string e.subj)) e.subj (nDep K e.subj) (nIns K e.subj) (w.alloc (.cells (evArr e) 56)) ∧ (w.alloc (.cells (evArr e) 56)).rowIs w.heap.size 56 13 (evc e)) := ⟨hS, hat, hev⟩
  clear hS hat hev hr hk ts
  unfold evtVal
  go_enter Try.func28, Try.ntmps28
  go_wp2_with (go_at_call 34; refine (service_any HS.out.1 HS.out.2.1 hs).mono ?_; rintro r W ⟨hb, rfl, hP⟩)
  obtain ⟨τ2, sm, fs2, v1, v2, h2', hfs, hh, htg, hbk⟩ := hP
  have hev : W.rowIs w.heap.size 56 13 (evc e) := HS.out.2.2.of_block (hbk w.heap.size (by simp) (by omega) (by rw [tagAt_same]; exact fun h => h))
  have hte : τ2 w.heap.size = .other := by rw [htg w.heap.size (by simp)]; exact tagAt_same _ _ _
  obtain ⟨eB, heB⟩ : ∃ t, t = w.heap.size := ⟨_, rfl⟩
  rw [← heB] at hev hte ⊢
  have HFS : Hid (fs2 (.string e.subj) = some (.pointer (some ⟨hb, 0, none⟩))) := hfs
  clear hbk htg HS hfs heB
  obtain ⟨_, _, e4, e5, e6, e9, e10, e11⟩ := evc_facts hev
  obtain ⟨_, _, a4, a5, a6, a9, a10, a11⟩ := evc_facts (hev.alloc (.cells #[.int .u64 0, .int .i64 0, .pointer none, .int .u8 0, .slice none 0 0] 103))
  have ch : W.cell? ⟨hb, 0, none⟩ = some v1 := hh.row.cell (i := 0) (by omega)
  have ah : (W.alloc (.cells #[.int .u64 0, .int .i64 0, .pointer none, .int .u8 0, .slice none 0 0] 103)).cell? ⟨hb, 0, none⟩ = some v1 := (hh.row.alloc (.cells #[.int .u64 0, .int .i64 0, .pointer none, .int .u8 0, .slice none 0 0] 103)).cell (i := 0) (by omega)
  have az : (W.alloc (.cells #[.int .u64 0, .int .i64 0, .pointer none, .int .u8 0, .slice none 0 0] 103)).drew.frozen? ⟨hb, 0, none⟩ = false := (hh.row.alloc (.cells #[.int .u64 0, .int .i64 0, .pointer none, .int .u8 0, .slice none 0 0] 103)).frozen 0
  obtain ⟨xs, hown⟩ := hh.own1
  have hown' : (W.alloc (.cells #[.int .u64 0, .int .i64 0, .pointer none, .int .u8 0, .slice none 0 0] 103)).drew.ownsRow 0 103 5 v1 (nDep K e.subj) xs := hown.alloc _
  have hvn : v1.ownBlock ≠ some hb := fun e2 => by have := hh.tag1 hb e2; rw [hh.tag] at this; cases this
  have hve : v1.ownBlock ≠ some eB := fun e2 => by have := hh.tag1 eB e2; rw [hte] at this; cases this
  have hlt := hh.row.lt
  have helt := hev.lt
  have hcn : nDep K e.subj ≤ 4096 := Nat.le_trans (List.countP_le_length) hlen.out
  obtain ⟨i0, hi0, hz0, hz1, hz2⟩ := info_parts Try.info103
  go_region_law
    ((refine step_append_lies _ (by rfl) _ _ _ (by rfl) 0 103 i0 _ 5 56 Try.underlying86 hi0 hz0 hz1 hz2 rfl (by omega) v1 (nDep K e.subj) xs (by rfl) hown'
        ⟨W.heap.size, 0, none⟩ 1 1 [.int .u64 0, .int .i64 0, .pointer none, .int .u8 0, .slice none 0 0] (by rfl) (by rfl) (World.news_of_block (cs := #[.int .u64 0, .int .i64 0, .pointer none, .int .u8 0, .slice none 0 0]) (t := 103) (fr := (0, 0)) (by exact Go.Deep.blk_alloc_new W (.cells #[.int .u64 0, .int .i64 0, .pointer none, .int .u8 0, .slice none 0 0] 103))) (by simp [Value.oneCell'])
        (by omega) (by unfold maxLen; omega) (by omega) (by omega) (W.heap.size + 1) (by simp [World.drew]) ?_; intro gg cap1 w6 hown6 hgrow hat hlt6
      have n0 : w6.cell? ⟨hb, 0, none⟩ = some v1 := (hgrow.cell_far ⟨hb, 0, none⟩ (by simp [World.drew]; omega) (fun e2 => hvn e2.symm)).trans ah
      have nz : w6.frozen? ⟨hb, 0, none⟩ = false := (hgrow.frozen_far ⟨hb, 0, none⟩ (by simp [World.drew]; omega) (fun e2 => hvn e2.symm)).trans az))
  all_goals
    obtain ⟨τ3, h3, hh3⟩ := Hist.next1 h2' hh hown6 hgrow hat
    clear hown6 hgrow hat hlt6
    go_wp2
    go_end0
    exact ⟨rfl, h3.done HX.out.1 (by rw [nDep_snoc, HX.out.2.1]; simp) (by rw [nIns_snoc, HX.out.2.2]; simp) (by omega) HFS.out hh3⟩

set_option maxRecDepth 100000 in
set_option maxHeartbeats 4000000 in
theorem svcAdd_ins (sB : Nat) (x : SV) (τ : Nat → Tag) (fs : Value → Option Value) (n : Nat) (K : List Ev) (e : Ev) (w : World) (hr : w.rowIs sB 45 11 (sv x)) (hk : Svcs τ x.sm fs n x.ex K w) (ts : τ sB = .other)
    (hs : e.subj.size ≤ maxLen) (hlen : Hid (K.length ≤ 4096)) (h1 : (e.typ.toList == kDeployed) = false) (h2 : (e.typ.toList == kInstances) = true) :
    Calls Try.prog 28 #[.pointer (some ⟨sB, 9, none⟩), evtVal e] w fun r w' => r = .returned (.tuple #[]) ∧ SvcPost sB x τ (nextN (nDep K e.subj + nIns K e.subj) n) (K ++ [e]) w w' := by
  have HX : Hid (isEx e = false ∧ isDep e = false ∧ isIns e = true) := kinds_ins e h1 h2
  have hev := evc_row w e
  have hS : SM w τ x K e.subj sB (tagAt τ w.heap.size .other) x.sm fs n (w.alloc (.cells (evArr e) 56)) := (SM.start hr hk ts).alloc _ _
  have hat : SvcAt (tagAt τ w.heap.size .other) (fs (.string e.subj)) e.subj (nDep K e.subj) (nIns K e.subj) (w.alloc (.cells (evArr e) 56)) := (hk.at_ e.subj).move (fun k hk => tagAt_other _ _ (by omega)) (fun k hk _ => Go.Deep.blk_alloc_lt _ _ _ hk)
  have hsb := hr.lt
  have HS : Hid (SM w τ x K e.subj sB (tagAt τ w.heap.size .other) x.sm fs n (w.alloc (.cells (evArr e) 56)) ∧ SvcAt (tagAt τ w.heap.size .other) (fs (.string e.subj)) e.subj (nDep K e.subj) (nIns K e.subj) (w.alloc (.cells (evArr e) 56)) ∧ (w.alloc (.cells (evArr e) 56)).rowIs w.heap.size 56 13 (evc e)) := ⟨hS, hat, hev⟩
  clear hS hat hev hr hk ts
  unfold evtVal
  go_enter Try.func28, Try.ntmps28
  go_wp2_with (go_at_call 34; refine (service_any HS.out.1 HS.out.2.1 hs).mono ?_; rintro r W ⟨hb, rfl, hP⟩)
  obtain ⟨τ2, sm, fs2, v1, v2, h2', hfs, hh, htg, hbk⟩ := hP
  have hev : W.rowIs w.heap.size 56 13 (evc e) := HS.out.2.2.of_block (hbk w.heap.size (by simp) (by omega) (by rw [tagAt_same]; exact fun h => h))
  have hte : τ2 w.heap.size = .other := by rw [htg w.heap.size (by simp)]; exact tagAt_same _ _ _
  obtain ⟨eB, heB⟩ : ∃ t, t = w.heap.size := ⟨_, rfl⟩
  rw [← heB] at hev hte ⊢
  have HFS : Hid (fs2 (.string e.subj) = some (.pointer (some ⟨hb, 0, none⟩))) := hfs
  clear hbk htg HS hfs heB
  obtain ⟨_, _, e4, e5, e6, e9, e10, e11⟩ := evc_facts hev
  obtain ⟨_, _, a4, a5, a6, a9, a10, a11⟩ := evc_facts (hev.alloc (.cells #[.int .u64 0, .int .i64 0, .pointer none, .int .i64 0] 105))
  have ch : W.cell? ⟨hb, 1, none⟩ = some v2 := hh.row.cell (i := 1) (by omega)
  have ah : (W.alloc (.cells #[.int .u64 0, .int .i64 0, .pointer none, .int .i64 0] 105)).cell? ⟨hb, 1, none⟩ = some v2 := (hh.row.alloc (.cells #[.int .u64 0, .int .i64 0, .pointer none, .int .i64 0] 105)).cell (i := 1) (by omega)
  have az : (W.alloc (.cells #[.int .u64 0, .int .i64 0, .pointer none, .int .i64 0] 105)).drew.frozen? ⟨hb, 1, none⟩ = false := (hh.row.alloc (.cells #[.int .u64 0, .int .i64 0, .pointer none, .int .i64 0] 105)).frozen 1
  obtain ⟨xs, hown⟩ := hh.own2
  have hown' : (W.alloc (.cells #[.int .u64 0, .int .i64 0, .pointer none, .int .i64 0] 105)).drew.ownsRow 0 105 4 v2 (nIns K e.subj) xs := hown.alloc _
  have hvn : v2.ownBlock ≠ some hb := fun e2 => by have := hh.tag2 hb e2; rw [hh.tag] at this; cases this
  have hve : v2.ownBlock ≠ some eB := fun e2 => by have := hh.tag2 eB e2; rw [hte] at this; cases this
  have hlt := hh.row.lt
  have helt := hev.lt
  have hcn : nIns K e.subj ≤ 4096 := Nat.le_trans (List.countP_le_length) hlen.out
  obtain ⟨i0, hi0, hz0, hz1, hz2⟩ := info_parts Try.info105
  go_region_law
    ((refine step_append_lies _ (by rfl) _ _ _ (by rfl) 0 105 i0 _ 4 32 Try.underlying87 hi0 hz0 hz1 hz2 rfl (by omega) v2 (nIns K e.subj) xs (by rfl) hown'
        ⟨W.heap.size, 0, none⟩ 1 1 [.int .u64 0, .int .i64 0, .pointer none, .int .i64 0] (by rfl) (by rfl) (World.news_of_block (cs := #[.int .u64 0, .int .i64 0, .pointer none, .int .i64 0]) (t := 105) (fr := (0, 0)) (by exact Go.Deep.blk_alloc_new W (.cells #[.int .u64 0, .int .i64 0, .pointer none, .int .i64 0] 105))) (by simp [Value.oneCell'])
        (by omega) (by unfold maxLen; omega) (by omega) (by omega) (W.heap.size + 1) (by simp [World.drew]) ?_; intro gg cap1 w6 hown6 hgrow hat hlt6
      have n0 : w6.cell? ⟨hb, 1, none⟩ = some v2 := (hgrow.cell_far ⟨hb, 1, none⟩ (by simp [World.drew]; omega) (fun e2 => hvn e2.symm)).trans ah
      have nz : w6.frozen? ⟨hb, 1, none⟩ = false := (hgrow.frozen_far ⟨hb, 1, none⟩ (by simp [World.drew]; omega) (fun e2 => hvn e2.symm)).trans az))
  all_goals
    obtain ⟨τ3, h3, hh3⟩ := Hist.next2 h2' hh hown6 hgrow hat
    clear hown6 hgrow hat hlt6
    go_wp2
    go_end0
    exact ⟨rfl, h3.done HX.out.1 (by rw [nDep_snoc, HX.out.2.1]; simp) (by rw [nIns_snoc, HX.out.2.2]; simp) (by omega) HFS.out hh3⟩

end Go.Proofs.Qxb6603530a
