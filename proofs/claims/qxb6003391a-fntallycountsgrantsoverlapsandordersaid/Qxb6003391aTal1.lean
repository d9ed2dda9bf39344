import Derived.Test.Qxb6003391aStamp
import Derived.Deep.RegionHeld3
import Derived.Laws.Pointers
import Derived.Deep.Light
import Derived.Deep.LoopGhost
namespace Go.Proofs.Qxb6003391a.Tal
open Go.ChangeShapes Go.WideShapes Go.ChangeAt Go.RowKit
open Cmp (bef before_any)
set_option linter.unusedVariables false

/-- The cells of a tally. -/
def tv (G O X h : Int) (lt lm : Nat) (i : Nat) : Value :=
  if i = 0 then .int .i64 G else if i = 1 then .int .i64 O else if i = 2 then .int .i64 X else if i = 3 then .int .i64 0 else if i = 4 then .int .i64 0 else if i = 5 then .int .i64 h else if i = 6 then .int .u64 lt else .int .u32 lm

theorem tv_set0 {w : World} {b : Nat} {G O X h : Int} {lt lm : Nat} (hr : w.rowIs b 70 8 (tv G O X h lt lm)) (v : Int) : (w.setCell ⟨b, 0, none⟩ (.int .i64 v)).rowIs b 70 8 (tv v O X h lt lm) :=
  (hr.set 0 _).congr (fun i _ => by unfold tv; by_cases e : i = 0 <;> simp [e])
theorem tv_set1 {w : World} {b : Nat} {G O X h : Int} {lt lm : Nat} (hr : w.rowIs b 70 8 (tv G O X h lt lm)) (v : Int) : (w.setCell ⟨b, 1, none⟩ (.int .i64 v)).rowIs b 70 8 (tv G v X h lt lm) :=
  (hr.set 1 _).congr (fun i _ => by unfold tv; by_cases e : i = 1 <;> simp [e])
theorem tv_set2 {w : World} {b : Nat} {G O X h : Int} {lt lm : Nat} (hr : w.rowIs b 70 8 (tv G O X h lt lm)) (v : Int) : (w.setCell ⟨b, 2, none⟩ (.int .i64 v)).rowIs b 70 8 (tv G O v h lt lm) :=
  (hr.set 2 _).congr (fun i _ => by unfold tv; by_cases e : i = 2 <;> simp [e])
theorem tv_set5 {w : World} {b : Nat} {G O X h : Int} {lt lm : Nat} (hr : w.rowIs b 70 8 (tv G O X h lt lm)) (v : Int) : (w.setCell ⟨b, 5, none⟩ (.int .i64 v)).rowIs b 70 8 (tv G O X v lt lm) :=
  (hr.set 5 _).congr (fun i _ => by unfold tv; by_cases e : i = 5 <;> simp [e])
theorem tv_set67 {w : World} {b : Nat} {G O X h : Int} {lt lm : Nat} (hr : w.rowIs b 70 8 (tv G O X h lt lm)) (t m : Nat) : ((w.setCell ⟨b, 6, none⟩ (.int .u64 t)).setCell ⟨b, 7, none⟩ (.int .u32 m)).rowIs b 70 8 (tv G O X h t m) := by
  refine ((hr.set 6 _).set 7 _).congr (fun i hi => ?_)
  unfold tv
  by_cases e : i = 7
  · subst e; simp
  · by_cases e2 : i = 6
    · subst e2; simp
    · simp only [if_neg e, if_neg e2]
      have : i = 0 ∨ i = 1 ∨ i = 2 ∨ i = 3 ∨ i = 4 ∨ i = 5 := by omega
      rcases this with rfl | rfl | rfl | rfl | rfl | rfl <;> rfl

/-- All eight cells, as the walk reads them. -/
structure Ty (b : Nat) (G O X h : Int) (lt lm : Nat) (w : World) : Prop where
  row : w.rowIs b 70 8 (tv G O X h lt lm)

theorem Ty.cells {b : Nat} {G O X h : Int} {lt lm : Nat} {w : World} (hT : Ty b G O X h lt lm w) :
    w.cell? ⟨b, 0, none⟩ = some (.int .i64 G) ∧ w.cell? ⟨b, 1, none⟩ = some (.int .i64 O) ∧ w.cell? ⟨b, 2, none⟩ = some (.int .i64 X) ∧ w.cell? ⟨b, 3, none⟩ = some (.int .i64 0) ∧ w.cell? ⟨b, 4, none⟩ = some (.int .i64 0) ∧ w.cell? ⟨b, 5, none⟩ = some (.int .i64 h) ∧ w.cell? ⟨b, 6, none⟩ = some (.int .u64 lt) ∧ w.cell? ⟨b, 7, none⟩ = some (.int .u32 lm) ∧ ∀ i, w.frozen? ⟨b, i, none⟩ = false :=
  ⟨hT.row.cell (by omega), hT.row.cell (by omega), hT.row.cell (by omega), hT.row.cell (by omega), hT.row.cell (by omega), hT.row.cell (by omega), hT.row.cell (by omega), hT.row.cell (by omega), fun i => hT.row.frozen i⟩

set_option maxHeartbeats 800000 in
theorem release_any (b : Nat) (G O X h : Int) (lt lm : Nat) (w : World) (hT : Ty b G O X h lt lm w) (h0 : 0 ≤ h) (h1 : h ≤ 4096) :
    Calls Try.prog 41 #[.pointer (some ⟨b, 0, none⟩)] w fun e w' => e = .returned (.tuple #[]) ∧ Ty b G O X (h - 1) lt lm w' ∧ w.grownBy w' (some b) := by
  obtain ⟨_, _, _, _, _, c5, _, _, hf⟩ := hT.cells
  have f5 := hf 5
  clear hf
  go_enter Try.func41, Try.ntmps41
  go_wp2
  go_end0
  exact ⟨rfl, ⟨tv_set5 hT.row (h - 1)⟩, ⟨rfl, rfl, rfl, by simp [World.setCell], fun k _ hne => Go.Deep.blk_setCell_other _ _ _ _ (fun e => hne (by rw [e]))⟩⟩


theorem grown_set {w w' : World} {b : Nat} (h : w.grownBy w' (some b)) (i : Nat) (v : Value) : w.grownBy (w'.setCell ⟨b, i, none⟩ v) (some b) :=
  ⟨h.os, h.tape, h.output, by have := h.size; simpa [World.setCell] using this, fun k hk hne => by rw [Go.Deep.blk_setCell_other _ _ _ _ (fun e => hne (by rw [e]))]; exact h.block k hk hne⟩
theorem grown_alloc {w w' : World} {b : Nat} (h : w.grownBy w' (some b)) (o : Obj) : w.grownBy (w'.alloc o) (some b) :=
  ⟨h.os, h.tape, h.output, by have := h.size; simp; omega, fun k hk hne => by rw [Go.Deep.blk_alloc_lt _ _ _ (by have := h.size; omega)]; exact h.block k hk hne⟩
theorem grown_below {w w' w'' : World} {b : Nat} (h : w.grownBy w' (some b)) (hb : Below w'.heap.size w' w'') : w.grownBy w'' (some b) :=
  ⟨hb.os.trans h.os, hb.tape.trans h.tape, hb.output.trans h.output, Nat.le_trans h.size hb.size, fun k hk hne => by rw [hb.block k (Nat.lt_of_lt_of_le hk h.size)]; exact h.block k hk hne⟩
theorem grown_drew {w w' : World} {b : Nat} (h : w.grownBy w' (some b)) : w.grownBy w'.drew (some b) := ⟨h.os, h.tape, h.output, h.size, h.block⟩

/-- What stands behind the call of Before. -/
theorem behind {W0 w1 : World} {b H : Nat} {G O X h : Int} {lt lm t m : Nat} (r0 : W0.rowIs b 70 8 (tv G O X h lt lm)) (hH : W0.heap.size = H)
    (hb1 : Below (W0.alloc (.cells #[.int .u64 t, .int .u32 m] 68)).drew.heap.size (W0.alloc (.cells #[.int .u64 t, .int .u32 m] 68)).drew w1) :
    Ty b G O X h lt lm w1 ∧ w1.cell? ⟨H, 0, none⟩ = some (.int .u64 t) ∧ w1.cell? ⟨H, 1, none⟩ = some (.int .u32 m) := by
  subst hH
  have hlt := r0.lt
  have hsz : (W0.alloc (.cells #[.int .u64 t, .int .u32 m] 68)).drew.heap.size = W0.heap.size + 1 := Go.Deep.nblk_alloc _ _
  have hnew : (W0.alloc (.cells #[.int .u64 t, .int .u32 m] 68)).drew.heap[W0.heap.size]? = some (.cells #[.int .u64 t, .int .u32 m] 68 (0, 0)) := Go.Deep.blk_alloc_new _ _
  have hb : w1.heap[W0.heap.size]? = some (.cells #[.int .u64 t, .int .u32 m] 68 (0, 0)) := by rw [hb1.block _ (by omega)]; exact hnew
  refine ⟨⟨rowIs_below (r0.alloc _).drew hb1 (by omega)⟩, ?_, ?_⟩
  · simp only [World.cell?, hb]; rfl
  · simp only [World.cell?, hb]; rfl

set_option maxHeartbeats 1600000 in
theorem grant_pos (b : Nat) (G O X h : Int) (lt lm t m : Nat) (w : World) (hT : Ty b G O X h lt lm w) (h0 : 0 < h) (h1 : h ≤ 4096) (g0 : 0 ≤ G) (g1 : G ≤ 4096) (o0 : 0 ≤ O) (o1 : O ≤ 4096) (x0 : 0 ≤ X) (x1 : X ≤ 4096) :
    Calls Try.prog 40 #[.pointer (some ⟨b, 0, none⟩), .agg #[.int .u64 t, .int .u32 m]] w fun e w' => e = .returned (.tuple #[]) ∧ w.grownBy w' (some b) ∧
      ((bef t m lt lm = true ∧ Ty b (G + 1) (O + 1) (X + 1) (h + 1) lt lm w') ∨ (bef t m lt lm = false ∧ Ty b (G + 1) (O + 1) X (h + 1) t m w')) := by
  obtain ⟨c0, c1, c2, _, _, c5, c6, c7, hf⟩ := hT.cells
  have hb := hT.row.lt
  have f0 := hf 0
  have f1 := hf 1
  clear hf
  have r0 : ((w.setCell ⟨b, 0, none⟩ (.int .i64 (G + 1))).setCell ⟨b, 1, none⟩ (.int .i64 (O + 1))).rowIs b 70 8 (tv (G + 1) (O + 1) X h lt lm) := tv_set1 (tv_set0 hT.row (G + 1)) (O + 1)
  have g0 : w.grownBy ((w.setCell ⟨b, 0, none⟩ (.int .i64 (G + 1))).setCell ⟨b, 1, none⟩ (.int .i64 (O + 1))) (some b) := grown_set (grown_set (World.grownBy.refl w (some b)) 0 _) 1 _
  have hH : ((w.setCell ⟨b, 0, none⟩ (.int .i64 (G + 1))).setCell ⟨b, 1, none⟩ (.int .i64 (O + 1))).heap.size = w.heap.size := by simp [World.setCell]
  have R0 : Hid (((w.setCell ⟨b, 0, none⟩ (.int .i64 (G + 1))).setCell ⟨b, 1, none⟩ (.int .i64 (O + 1))).rowIs b 70 8 (tv (G + 1) (O + 1) X h lt lm) ∧ w.grownBy ((w.setCell ⟨b, 0, none⟩ (.int .i64 (G + 1))).setCell ⟨b, 1, none⟩ (.int .i64 (O + 1))) (some b) ∧ ((w.setCell ⟨b, 0, none⟩ (.int .i64 (G + 1))).setCell ⟨b, 1, none⟩ (.int .i64 (O + 1))).heap.size = w.heap.size) := ⟨r0, g0, hH⟩
  obtain ⟨hTs, z0, z1⟩ := behind (t := t) (m := m) r0 hH (Below.refl _ _)
  obtain ⟨_, _, _, _, _, _, z6, z7, _⟩ := hTs.cells
  have S0 : Hid ((((w.setCell ⟨b, 0, none⟩ (.int .i64 (G + 1))).setCell ⟨b, 1, none⟩ (.int .i64 (O + 1))).alloc (.cells #[.int .u64 t, .int .u32 m] 68)).drew.cell? ⟨w.heap.size, 0, none⟩ = some (.int .u64 t) ∧ (((w.setCell ⟨b, 0, none⟩ (.int .i64 (G + 1))).setCell ⟨b, 1, none⟩ (.int .i64 (O + 1))).alloc (.cells #[.int .u64 t, .int .u32 m] 68)).drew.cell? ⟨w.heap.size, 1, none⟩ = some (.int .u32 m) ∧ (((w.setCell ⟨b, 0, none⟩ (.int .i64 (G + 1))).setCell ⟨b, 1, none⟩ (.int .i64 (O + 1))).alloc (.cells #[.int .u64 t, .int .u32 m] 68)).drew.cell? ⟨b, 6, none⟩ = some (.int .u64 lt) ∧ (((w.setCell ⟨b, 0, none⟩ (.int .i64 (G + 1))).setCell ⟨b, 1, none⟩ (.int .i64 (O + 1))).alloc (.cells #[.int .u64 t, .int .u32 m] 68)).drew.cell? ⟨b, 7, none⟩ = some (.int .u32 lm)) := ⟨z0, z1, z6, z7⟩
  clear r0 g0 hH hT hTs z0 z1 z6 z7
  go_enter Try.func40, Try.ntmps40
  go_wp2
  go_region_held3 (fun w' => w'.cell? ⟨w.heap.size, 0, none⟩ = some (.int .u64 t) ∧ w'.cell? ⟨w.heap.size, 1, none⟩ = some (.int .u32 m) ∧ w'.cell? ⟨b, 6, none⟩ = some (.int .u64 lt) ∧ w'.cell? ⟨b, 7, none⟩ = some (.int .u32 lm))
    (first | exact ⟨k0, k1, k6, k7⟩ | exact S0.out)
    ((go_at_call 42; refine (before_any t m lt lm _).mono ?_; rintro e w1 ⟨rfl, hb1⟩; obtain ⟨hT1, k0, k1⟩ := behind R0.out.1 R0.out.2.2 hb1; obtain ⟨d0, d1, d2, _, _, d5, k6, k7, hf1⟩ := hT1.cells))
  have gg : w.grownBy w1 (some b) := grown_below (grown_drew (grown_alloc R0.out.2.1 _)) hb1
  have e2 := hf1 2
  have e5 := hf1 5
  have e6 := hf1 6
  have e7 := hf1 7
  have GG : Hid (w.grownBy w1 (some b)) := gg
  clear hb1 gg hf1 c0 c1 c2 c5 c6 c7 f0 f1 R0
  cases hbf : bef t m lt lm
  · have HB : Hid (bef t m lt lm = false) := hbf
    clear hbf
    go_wp2
    go_end0
    exact ⟨rfl, grown_set (grown_set (grown_set GG.out 6 _) 7 _) 5 _, .inr ⟨HB.out, ⟨tv_set5 (tv_set67 hT1.row t m) _⟩⟩⟩
  · have HB : Hid (bef t m lt lm = true) := hbf
    clear hbf
    go_wp2
    go_end0
    exact ⟨rfl, grown_set (grown_set GG.out 2 _) 5 _, .inl ⟨HB.out, ⟨tv_set5 (tv_set2 hT1.row _) _⟩⟩⟩

set_option maxHeartbeats 1600000 in
theorem grant_zero (b : Nat) (G O X h : Int) (lt lm t m : Nat) (w : World) (hT : Ty b G O X h lt lm w) (h0 : h = 0) (h1 : h ≤ 4096) (g0 : 0 ≤ G) (g1 : G ≤ 4096) (o0 : 0 ≤ O) (o1 : O ≤ 4096) (x0 : 0 ≤ X) (x1 : X ≤ 4096) :
    Calls Try.prog 40 #[.pointer (some ⟨b, 0, none⟩), .agg #[.int .u64 t, .int .u32 m]] w fun e w' => e = .returned (.tuple #[]) ∧ w.grownBy w' (some b) ∧
      ((bef t m lt lm = true ∧ Ty b (G + 1) O (X + 1) (h + 1) lt lm w') ∨ (bef t m lt lm = false ∧ Ty b (G + 1) O X (h + 1) t m w')) := by
  subst h0
  obtain ⟨c0, c1, c2, _, _, c5, c6, c7, hf⟩ := hT.cells
  have hb := hT.row.lt
  have f0 := hf 0
  have f1 := hf 1
  clear hf
  have r0 : (w.setCell ⟨b, 0, none⟩ (.int .i64 (G + 1))).rowIs b 70 8 (tv (G + 1) O X 0 lt lm) := tv_set0 hT.row (G + 1)
  have g0 : w.grownBy (w.setCell ⟨b, 0, none⟩ (.int .i64 (G + 1))) (some b) := grown_set (World.grownBy.refl w (some b)) 0 _
  have hH : (w.setCell ⟨b, 0, none⟩ (.int .i64 (G + 1))).heap.size = w.heap.size := by simp [World.setCell]
  have R0 : Hid ((w.setCell ⟨b, 0, none⟩ (.int .i64 (G + 1))).rowIs b 70 8 (tv (G + 1) O X 0 lt lm) ∧ w.grownBy (w.setCell ⟨b, 0, none⟩ (.int .i64 (G + 1))) (some b) ∧ (w.setCell ⟨b, 0, none⟩ (.int .i64 (G + 1))).heap.size = w.heap.size) := ⟨r0, g0, hH⟩
  obtain ⟨hTs, z0, z1⟩ := behind (t := t) (m := m) r0 hH (Below.refl _ _)
  obtain ⟨_, _, _, _, _, _, z6, z7, _⟩ := hTs.cells
  have S0 : Hid (((w.setCell ⟨b, 0, none⟩ (.int .i64 (G + 1))).alloc (.cells #[.int .u64 t, .int .u32 m] 68)).drew.cell? ⟨w.heap.size, 0, none⟩ = some (.int .u64 t) ∧ ((w.setCell ⟨b, 0, none⟩ (.int .i64 (G + 1))).alloc (.cells #[.int .u64 t, .int .u32 m] 68)).drew.cell? ⟨w.heap.size, 1, none⟩ = some (.int .u32 m) ∧ ((w.setCell ⟨b, 0, none⟩ (.int .i64 (G + 1))).alloc (.cells #[.int .u64 t, .int .u32 m] 68)).drew.cell? ⟨b, 6, none⟩ = some (.int .u64 lt) ∧ ((w.setCell ⟨b, 0, none⟩ (.int .i64 (G + 1))).alloc (.cells #[.int .u64 t, .int .u32 m] 68)).drew.cell? ⟨b, 7, none⟩ = some (.int .u32 lm)) := ⟨z0, z1, z6, z7⟩
  clear r0 g0 hH hT hTs z0 z1 z6 z7
  go_enter Try.func40, Try.ntmps40
  go_wp2
  go_region_held3 (fun w' => w'.cell? ⟨w.heap.size, 0, none⟩ = some (.int .u64 t) ∧ w'.cell? ⟨w.heap.size, 1, none⟩ = some (.int .u32 m) ∧ w'.cell? ⟨b, 6, none⟩ = some (.int .u64 lt) ∧ w'.cell? ⟨b, 7, none⟩ = some (.int .u32 lm))
    (first | exact ⟨k0, k1, k6, k7⟩ | exact S0.out)
    ((go_at_call 42; refine (before_any t m lt lm _).mono ?_; rintro e w1 ⟨rfl, hb1⟩; obtain ⟨hT1, k0, k1⟩ := behind R0.out.1 R0.out.2.2 hb1; obtain ⟨d0, d1, d2, _, _, d5, k6, k7, hf1⟩ := hT1.cells))
  have gg : w.grownBy w1 (some b) := grown_below (grown_drew (grown_alloc R0.out.2.1 _)) hb1
  have e2 := hf1 2
  have e5 := hf1 5
  have e6 := hf1 6
  have e7 := hf1 7
  have GG : Hid (w.grownBy w1 (some b)) := gg
  clear hb1 gg hf1 c0 c1 c2 c5 c6 c7 f0 f1 R0
  cases hbf : bef t m lt lm
  · have HB : Hid (bef t m lt lm = false) := hbf
    clear hbf
    go_wp2
    go_end0
    exact ⟨rfl, grown_set (grown_set (grown_set GG.out 6 _) 7 _) 5 _, .inr ⟨HB.out, ⟨tv_set5 (tv_set67 hT1.row t m) _⟩⟩⟩
  · have HB : Hid (bef t m lt lm = true) := hbf
    clear hbf
    go_wp2
    go_end0
    exact ⟨rfl, grown_set (grown_set GG.out 2 _) 5 _, .inl ⟨HB.out, ⟨tv_set5 (tv_set2 hT1.row _) _⟩⟩⟩

end Go.Proofs.Qxb6003391a.Tal
