import Derived.Test.Qxb6003391aTal2
import Derived.Deep.AppendLies
namespace Go.Proofs.Qxb6003391a.Tal
open Go.ChangeShapes Go.WideShapes Go.ChangeAt Go.RowKit
open Cmp (bef)
set_option linter.unusedVariables false

theorem ty_new (w : World) : Ty w.heap.size 0 0 0 0 0 0 (w.alloc (.cells #[.int .i64 0, .int .i64 0, .int .i64 0, .int .i64 0, .int .i64 0, .int .i64 0, .int .u64 0, .int .u32 0] 70)) := by
  refine ⟨⟨_, Go.Deep.blk_alloc_new _ _, rfl, fun i hi => ?_⟩⟩
  have : i = 0 ∨ i = 1 ∨ i = 2 ∨ i = 3 ∨ i = 4 ∨ i = 5 ∨ i = 6 ∨ i = 7 := by omega
  rcases this with rfl | rfl | rfl | rfl | rfl | rfl | rfl | rfl <;> rfl

set_option maxRecDepth 100000 in
set_option maxHeartbeats 16000000 in
theorem main_any (a0 a1 a2 : Option Addr) (n c0 c1 l2 c2 : Nat) (T M : Nat → Nat) (P : Nat → Bool) (w : World) (h0 : Sl .u64 w a0 n (fun i => (T i : Int))) (h1 : Sl .u32 w a1 n (fun i => (M i : Int))) (h2 : SlB w a2 l2 P) (hn : n ≤ 1024) (hl2 : l2 ≤ 2048) :
    Calls Try.prog 8 #[.slice a0 n c0, .slice a1 n c1, .slice a2 l2 c2] w fun e w' => e = .returned (.bool true) ∧ Below w.heap.size w w' := by
  have t1 : decide (1024 < (n : Int)) = false := by simp; omega
  have t2 : decide (2048 < (l2 : Int)) = false := by simp; omega
  have t3 : ((n : Int) != (n : Int)) = false := by simp
  go_enter Try.func8, Try.ntmps8
  go_wp2_with fail
  refine (bytes_any _ _ _ _ _ _ _ _ _ _ (by unfold maxLen; omega) (by unfold maxLen; omega) (by unfold maxLen; omega)).mono ?_
  rintro e w' ⟨rb, rfl, rfl, hrb⟩
  obtain rfl := hrb hn hn hl2
  clear hrb
  go_wp2_with fail
  refine (cloneU64_any _ _ _ _ _ h0 (by omega)).mono ?_
  rintro e w1 ⟨a0', cp0, rfl, s0, b1⟩
  go_wp2_with fail
  refine (cloneU32_any _ _ _ _ _ (h1.below b1 (Nat.le_refl _)) (by omega)).mono ?_
  rintro e w2 ⟨a1', cp1, rfl, s1, b2⟩
  have h2' := (h2.below b1 (Nat.le_refl _)).below b2 (Nat.le_refl _)
  have s0' := s0.below b2 (Nat.le_refl _)
  go_wp2_with fail
  refine (cloneBools_any _ _ _ _ _ h2' (by omega)).mono ?_
  rintro e wA ⟨a2', cp2, rfl, s2, b3⟩
  have s0A := s0'.below b3 (Nat.le_refl _)
  have s1A := s1.below b3 (Nat.le_refl _)
  have hBA : Below w.heap.size w wA := (b1.trans (b2.mono b1.size)).trans (b3.mono (Nat.le_trans b1.size b2.size))
  clear b1 b2 b3 s0 s1 s0' h2' h0 h1 h2
  have hty := ty_new wA
  have hB0 : Below wA.heap.size wA (wA.alloc (.cells #[.int .i64 0, .int .i64 0, .int .i64 0, .int .i64 0, .int .i64 0, .int .i64 0, .int .u64 0, .int .u32 0] 70)) := (Below.refl _ _).alloc (Nat.le_refl _) _
  go_wp2
  go_loopg [13, 8, 9, 10, 11, 12] l2 (fun gk iv gv ovv xv hv gg wx => ∃ (i g : Nat) (h O X : Int) (lt lm : Nat), i ≤ l2 ∧ gk = l2 - i ∧ iv = .int .i64 i ∧ gv = .int .i64 g ∧ ovv = .int .i64 O ∧ xv = .int .i64 X ∧ hv = .int .i64 h ∧ gg = .int .i64 g ∧ Ty wA.heap.size (g : Int) O X h lt lm wx ∧ Lat T M g lt lm ∧ g ≤ n ∧ g ≤ i ∧ 0 ≤ h ∧ h ≤ i ∧ 0 ≤ O ∧ O ≤ i ∧ 0 ≤ X ∧ X ≤ i ∧ Below wA.heap.size wA wx)
  case atStart => exact ⟨0, 0, 0, 0, 0, 0, 0, Nat.zero_le _, rfl, rfl, rfl, rfl, rfl, rfl, rfl, hty, Lat.start T M, by omega, by omega, by omega, by omega, by omega, by omega, by omega, by omega, hB0⟩
  case round =>
    clear hty hB0
    obtain ⟨i, g, h, O, X, lt, lm, hi2, rfl, rfl, rfl, rfl, rfl, rfl, rfl, hTr, hLat, hgn0, hgi, h0, hhi, o0', hOi, x0', hXi, hBr⟩ := hrel
    have LAT : Hid (Lat T M g lt lm) := hLat
    clear hLat
    have hwr := hTr.row.lt
    by_cases hi : i < l2
    · rcases s2 with hz | ⟨b2, o2, rfl, hb2, hc2⟩
      · omega
      have c2 : wr.cell? ⟨b2, o2 + i, none⟩ = some (.bool (P i)) := by rw [hBr.cell (p := ⟨b2, o2 + i, none⟩) hb2]; exact hc2 i hi
      have i2 : (i : Int) < (l2 : Int) := by omega
      cases hP : P i
      · -- a release
        rw [hP] at c2
        clear hP
        by_cases hp : 0 < h
        · have q0 : (h == 0) = false := by simp; omega
          go_wp2_with (go_at_call 34; refine (zzrelease_any wA.heap.size (g : Int) O X h lt lm _ hTr h0 (by omega)).mono ?_; rintro e w1 ⟨rfl, hT1, hg1⟩)
          have hB1 : Below wA.heap.size wA w1 := hBr.grown hg1 (by omega) (fun k hk => by injection hk with e; omega)
          go_roundg (l2 - (i + 1))
          case measure => go_light; omega
          case rel => go_light; exact ⟨i + 1, g, h - 1, O, X, lt, lm, hi, rfl, by go_num, rfl, rfl, rfl, rfl, rfl, hT1, LAT.out, hgn0, by omega, by omega, by omega, by omega, by omega, by omega, by omega, hB1⟩
        · have hh0 : h = 0 := by omega
          subst hh0
          go_wp2
          go_roundg (l2 - (i + 1))
          case measure => go_light; omega
          case rel => go_light; exact ⟨i + 1, g, 0, O, X, lt, lm, hi, rfl, by go_num, rfl, rfl, rfl, rfl, rfl, hTr, LAT.out, hgn0, by omega, by omega, by omega, by omega, by omega, by omega, by omega, hBr⟩
      · -- a grant
        rw [hP] at c2
        clear hP
        by_cases hgn : g < n
        · rcases s0A with hz | ⟨b0, o0, rfl, hb0, hc0⟩
          · omega
          rcases s1A with hz | ⟨b1, o1, rfl, hb1, hc1⟩
          · omega
          have C0 : Hid (∀ wx, Below wA.heap.size wA wx → ∀ j, j < n → wx.cell? ⟨b0, o0 + j, none⟩ = some (.int .u64 (T j))) := fun wx hB j hj => by rw [hB.cell (p := ⟨b0, o0 + j, none⟩) hb0]; exact hc0 j hj
          have C1 : Hid (∀ wx, Below wA.heap.size wA wx → ∀ j, j < n → wx.cell? ⟨b1, o1 + j, none⟩ = some (.int .u32 (M j))) := fun wx hB j hj => by rw [hB.cell (p := ⟨b1, o1 + j, none⟩) hb1]; exact hc1 j hj
          clear hc0 hc1
          have i5 : (g : Int) < (n : Int) := by omega
          by_cases hp : 0 < h
          · skip
            have OE : Hid (ov h O = (O + 1)) := by show ov h O = (O + 1); unfold ov; rw [if_pos hp]


            go_wp2
            go_loopg [14, 10] g (fun gj jv xv wx => ∃ jj : Nat, jj ≤ g ∧ gj = g - jj ∧ jv = .int .i64 jj ∧ xv = .int .i64 X ∧ (∀ j, j < jj → bef (T g) (M g) (T j) (M j) = false) ∧ Ty wA.heap.size (g : Int) O X h lt lm wx ∧ Below wA.heap.size wA wx)
            case atStart => exact ⟨0, Nat.zero_le _, rfl, rfl, rfl, fun j hj => by omega, hTr, hBr⟩
            case round =>
              clear hTr hBr hwr c2
              obtain ⟨jj, hjg, rfl, rfl, rfl, hnone, hTr, hBr⟩ := hrel
              have NONE : Hid (∀ j, j < jj → bef (T g) (M g) (T j) (M j) = false) := hnone
              clear hnone
              have hwr := hTr.row.lt
              by_cases hjj : jj < g
              · have y0 : wr.cell? ⟨b0, o0 + g, none⟩ = some (.int .u64 (T g)) := C0.out wr hBr g hgn
                have y1 : wr.cell? ⟨b1, o1 + g, none⟩ = some (.int .u32 (M g)) := C1.out wr hBr g hgn
                have y2 : wr.cell? ⟨b0, o0 + jj, none⟩ = some (.int .u64 (T jj)) := C0.out wr hBr jj (by omega)
                have y3 : wr.cell? ⟨b1, o1 + jj, none⟩ = some (.int .u32 (M jj)) := C1.out wr hBr jj (by omega)
                have i6 : (jj : Int) < (n : Int) := by omega
                have i7 : (g : Int) < (n : Int) := by omega
                have i8 : (jj : Int) < (g : Int) := by omega
                go_wp2
                go_quiet ((go_at_call 32; exact Calls.quiet_of_same (less_any _ _ _ _ _)))
                clear y0 y1 y2 y3
                have hT2 : Ty wA.heap.size (g : Int) O X h lt lm (wr.drewN nq) := ⟨hTr.row.of_block rfl⟩
                have hB2 : Below wA.heap.size wA (wr.drewN nq) := below_drewN hBr nq
                cases hbj : bef (T g) (M g) (T jj) (M jj)
                · have HBJ : Hid (bef (T g) (M g) (T jj) (M jj) = false) := hbj
                  clear hbj
                  go_wp2
                  go_roundg (g - (jj + 1))
                  case measure => go_light; omega
                  case rel =>
                    go_light
                    refine ⟨jj + 1, hjj, rfl, by go_num, rfl, fun j hj => ?_, hT2, hB2⟩
                    by_cases e : j = jj
                    · subst e; exact HBJ.out
                    · exact NONE.out j (by omega)
                · have HIT : Hid (jj < g ∧ bef (T g) (M g) (T jj) (M jj) = true) := ⟨hjj, hbj⟩
                  clear hbj
                  obtain ⟨wq, hwq⟩ : ∃ x, x = wr.drewN nq := ⟨_, rfl⟩
                  have hwrq : wA.heap.size < wq.heap.size := by rw [hwq]; exact hwr
                  rw [← hwq] at hT2 hB2 ⊢
                  clear hTr hBr hwr hwq
                  have hTr := hT2
                  have hBr := hB2
                  have hwr := hwrq
                  clear hT2 hB2 hwrq
                  go_wp2
                  have z0 : wq.cell? ⟨b0, o0 + g, none⟩ = some (.int .u64 (T g)) := C0.out wq hBr g hgn
                  have z1 : wq.cell? ⟨b1, o1 + g, none⟩ = some (.int .u32 (M g)) := C1.out wq hBr g hgn
                  go_region_held3 (fun w' => w'.cell? ⟨b0, o0 + g, none⟩ = some (.int .u64 (T g)) ∧ w'.cell? ⟨b1, o1 + g, none⟩ = some (.int .u32 (M g)))
                    (first | exact ⟨k0, k1⟩ | exact ⟨z0, z1⟩)
                    ((go_at_call 33; refine (zzgrant_any wA.heap.size (g : Int) O X h lt lm (T g) (M g) _ (by exact ⟨hTr.row⟩) h0 (by omega) (by omega) (by omega) o0' (by omega) x0' (by omega)).mono ?_; rintro e w1 ⟨rfl, hg1, hc1⟩; have k0 : w1.cell? ⟨b0, o0 + g, none⟩ = some (.int .u64 (T g)) := (hg1.cell_far _ (show b0 < wq.heap.size from by omega) (fun e => absurd (show b0 = wA.heap.size from Option.some.inj e) (by omega))).trans z0; have k1 : w1.cell? ⟨b1, o1 + g, none⟩ = some (.int .u32 (M g)) := (hg1.cell_far _ (show b1 < wq.heap.size from by omega) (fun e => absurd (show b1 = wA.heap.size from Option.some.inj e) (by omega))).trans z1))
                  have hB1 : Below wA.heap.size wA w1 := hBr.drew.grown hg1 (show wA.heap.size ≤ wq.heap.size from by omega) (fun k hk => by injection hk with e; omega)
                  have HR : Hid (∃ lt' lm', Ty wA.heap.size ((g : Int) + 1) (O + 1) (X + 1) (h + 1) lt' lm' w1 ∧ Lat T M (g + 1) lt' lm') := by
                    rcases hc1 with ⟨hbf, hT1⟩ | ⟨hbf, hT1⟩
                    · exact ⟨lt, lm, by rw [OE.out] at hT1; exact hT1, LAT.out.keep hbf⟩
                    · exact absurd (LAT.out.some HIT.out.1 HIT.out.2) (by rw [hbf]; simp)
                  clear hc1 hg1 k0 k1 z0 z1
                  go_wp2
                  go_roundg (l2 - (i + 1))
                  case measure => go_light; omega
                  case rel =>
                    go_light
                    obtain ⟨lt', lm', hT1, hL1⟩ := HR.out
                    exact ⟨i + 1, g + 1, h + 1, (O + 1), (X + 1), lt', lm', hi, rfl, by go_num, by go_num, (by first | rfl | go_num), (by first | rfl | go_num), (by first | rfl | go_num | simp), by go_num, by rw [show ((g + 1 : Nat) : Int) = (g : Int) + 1 by omega]; exact hT1, hL1, by omega, by omega, by omega, by omega, by omega, by omega, by omega, by omega, hB1⟩
              · obtain rfl : g = jj := by omega
                go_wp2
                have z0 : wr.cell? ⟨b0, o0 + g, none⟩ = some (.int .u64 (T g)) := C0.out wr hBr g hgn
                have z1 : wr.cell? ⟨b1, o1 + g, none⟩ = some (.int .u32 (M g)) := C1.out wr hBr g hgn
                go_region_held3 (fun w' => w'.cell? ⟨b0, o0 + g, none⟩ = some (.int .u64 (T g)) ∧ w'.cell? ⟨b1, o1 + g, none⟩ = some (.int .u32 (M g)))
                  (first | exact ⟨k0, k1⟩ | exact ⟨z0, z1⟩)
                  ((go_at_call 33; refine (zzgrant_any wA.heap.size (g : Int) O X h lt lm (T g) (M g) _ (by exact ⟨hTr.row⟩) h0 (by omega) (by omega) (by omega) o0' (by omega) x0' (by omega)).mono ?_; rintro e w1 ⟨rfl, hg1, hc1⟩; have k0 : w1.cell? ⟨b0, o0 + g, none⟩ = some (.int .u64 (T g)) := (hg1.cell_far _ (show b0 < wr.heap.size from by omega) (fun e => absurd (show b0 = wA.heap.size from Option.some.inj e) (by omega))).trans z0; have k1 : w1.cell? ⟨b1, o1 + g, none⟩ = some (.int .u32 (M g)) := (hg1.cell_far _ (show b1 < wr.heap.size from by omega) (fun e => absurd (show b1 = wA.heap.size from Option.some.inj e) (by omega))).trans z1))
                have hB1 : Below wA.heap.size wA w1 := hBr.drew.grown hg1 (show wA.heap.size ≤ wr.heap.size from by omega) (fun k hk => by injection hk with e; omega)
                have HR : Hid (∃ lt' lm', Ty wA.heap.size ((g : Int) + 1) (O + 1) X (h + 1) lt' lm' w1 ∧ Lat T M (g + 1) lt' lm') := by
                  rcases hc1 with ⟨hbf, hT1⟩ | ⟨hbf, hT1⟩
                  · exact absurd (LAT.out.hit hbf) (fun ⟨j, hj, e⟩ => by rw [NONE.out j hj] at e; cases e)
                  · exact ⟨_, _, by rw [OE.out] at hT1; exact hT1, LAT.out.next hbf⟩
                clear hc1 hg1 k0 k1 z0 z1
                go_wp2
                go_roundg (l2 - (i + 1))
                case measure => go_light; omega
                case rel =>
                  go_light
                  obtain ⟨lt', lm', hT1, hL1⟩ := HR.out
                  exact ⟨i + 1, g + 1, h + 1, (O + 1), X, lt', lm', hi, rfl, by go_num, by go_num, (by first | rfl | go_num), (by first | rfl | go_num), (by first | rfl | go_num | simp), by go_num, by rw [show ((g + 1 : Nat) : Int) = (g : Int) + 1 by omega]; exact hT1, hL1, by omega, by omega, by omega, by omega, by omega, by omega, by omega, by omega, hB1⟩
          · skip
            have OE : Hid (ov h O = O) := by show ov h O = O; unfold ov; rw [if_neg hp]
            have hh0 : h = 0 := by omega
            subst hh0
            go_wp2
            go_loopg [14, 10] g (fun gj jv xv wx => ∃ jj : Nat, jj ≤ g ∧ gj = g - jj ∧ jv = .int .i64 jj ∧ xv = .int .i64 X ∧ (∀ j, j < jj → bef (T g) (M g) (T j) (M j) = false) ∧ Ty wA.heap.size (g : Int) O X 0 lt lm wx ∧ Below wA.heap.size wA wx)
            case atStart => exact ⟨0, Nat.zero_le _, rfl, rfl, rfl, fun j hj => by omega, hTr, hBr⟩
            case round =>
              clear hTr hBr hwr c2
              obtain ⟨jj, hjg, rfl, rfl, rfl, hnone, hTr, hBr⟩ := hrel
              have NONE : Hid (∀ j, j < jj → bef (T g) (M g) (T j) (M j) = false) := hnone
              clear hnone
              have hwr := hTr.row.lt
              by_cases hjj : jj < g
              · have y0 : wr.cell? ⟨b0, o0 + g, none⟩ = some (.int .u64 (T g)) := C0.out wr hBr g hgn
                have y1 : wr.cell? ⟨b1, o1 + g, none⟩ = some (.int .u32 (M g)) := C1.out wr hBr g hgn
                have y2 : wr.cell? ⟨b0, o0 + jj, none⟩ = some (.int .u64 (T jj)) := C0.out wr hBr jj (by omega)
                have y3 : wr.cell? ⟨b1, o1 + jj, none⟩ = some (.int .u32 (M jj)) := C1.out wr hBr jj (by omega)
                have i6 : (jj : Int) < (n : Int) := by omega
                have i7 : (g : Int) < (n : Int) := by omega
                have i8 : (jj : Int) < (g : Int) := by omega
                go_wp2
                go_quiet ((go_at_call 32; exact Calls.quiet_of_same (less_any _ _ _ _ _)))
                clear y0 y1 y2 y3
                have hT2 : Ty wA.heap.size (g : Int) O X 0 lt lm (wr.drewN nq) := ⟨hTr.row.of_block rfl⟩
                have hB2 : Below wA.heap.size wA (wr.drewN nq) := below_drewN hBr nq
                cases hbj : bef (T g) (M g) (T jj) (M jj)
                · have HBJ : Hid (bef (T g) (M g) (T jj) (M jj) = false) := hbj
                  clear hbj
                  go_wp2
                  go_roundg (g - (jj + 1))
                  case measure => go_light; omega
                  case rel =>
                    go_light
                    refine ⟨jj + 1, hjj, rfl, by go_num, rfl, fun j hj => ?_, hT2, hB2⟩
                    by_cases e : j = jj
                    · subst e; exact HBJ.out
                    · exact NONE.out j (by omega)
                · have HIT : Hid (jj < g ∧ bef (T g) (M g) (T jj) (M jj) = true) := ⟨hjj, hbj⟩
                  clear hbj
                  obtain ⟨wq, hwq⟩ : ∃ x, x = wr.drewN nq := ⟨_, rfl⟩
                  have hwrq : wA.heap.size < wq.heap.size := by rw [hwq]; exact hwr
                  rw [← hwq] at hT2 hB2 ⊢
                  clear hTr hBr hwr hwq
                  have hTr := hT2
                  have hBr := hB2
                  have hwr := hwrq
                  clear hT2 hB2 hwrq
                  go_wp2
                  have z0 : wq.cell? ⟨b0, o0 + g, none⟩ = some (.int .u64 (T g)) := C0.out wq hBr g hgn
                  have z1 : wq.cell? ⟨b1, o1 + g, none⟩ = some (.int .u32 (M g)) := C1.out wq hBr g hgn
                  go_region_held3 (fun w' => w'.cell? ⟨b0, o0 + g, none⟩ = some (.int .u64 (T g)) ∧ w'.cell? ⟨b1, o1 + g, none⟩ = some (.int .u32 (M g)))
                    (first | exact ⟨k0, k1⟩ | exact ⟨z0, z1⟩)
                    ((go_at_call 33; refine (zzgrant_any wA.heap.size (g : Int) O X 0 lt lm (T g) (M g) _ (by exact ⟨hTr.row⟩) h0 (by omega) (by omega) (by omega) o0' (by omega) x0' (by omega)).mono ?_; rintro e w1 ⟨rfl, hg1, hc1⟩; have k0 : w1.cell? ⟨b0, o0 + g, none⟩ = some (.int .u64 (T g)) := (hg1.cell_far _ (show b0 < wq.heap.size from by omega) (fun e => absurd (show b0 = wA.heap.size from Option.some.inj e) (by omega))).trans z0; have k1 : w1.cell? ⟨b1, o1 + g, none⟩ = some (.int .u32 (M g)) := (hg1.cell_far _ (show b1 < wq.heap.size from by omega) (fun e => absurd (show b1 = wA.heap.size from Option.some.inj e) (by omega))).trans z1))
                  have hB1 : Below wA.heap.size wA w1 := hBr.drew.grown hg1 (show wA.heap.size ≤ wq.heap.size from by omega) (fun k hk => by injection hk with e; omega)
                  have HR : Hid (∃ lt' lm', Ty wA.heap.size ((g : Int) + 1) O (X + 1) (0 + 1) lt' lm' w1 ∧ Lat T M (g + 1) lt' lm') := by
                    rcases hc1 with ⟨hbf, hT1⟩ | ⟨hbf, hT1⟩
                    · exact ⟨lt, lm, by rw [OE.out] at hT1; exact hT1, LAT.out.keep hbf⟩
                    · exact absurd (LAT.out.some HIT.out.1 HIT.out.2) (by rw [hbf]; simp)
                  clear hc1 hg1 k0 k1 z0 z1
                  go_wp2
                  go_roundg (l2 - (i + 1))
                  case measure => go_light; omega
                  case rel =>
                    go_light
                    obtain ⟨lt', lm', hT1, hL1⟩ := HR.out
                    exact ⟨i + 1, g + 1, 0 + 1, O, (X + 1), lt', lm', hi, rfl, by go_num, by go_num, (by first | rfl | go_num), (by first | rfl | go_num), (by first | rfl | go_num | simp), by go_num, by rw [show ((g + 1 : Nat) : Int) = (g : Int) + 1 by omega]; exact hT1, hL1, by omega, by omega, by omega, by omega, by omega, by omega, by omega, by omega, hB1⟩
              · obtain rfl : g = jj := by omega
                go_wp2
                have z0 : wr.cell? ⟨b0, o0 + g, none⟩ = some (.int .u64 (T g)) := C0.out wr hBr g hgn
                have z1 : wr.cell? ⟨b1, o1 + g, none⟩ = some (.int .u32 (M g)) := C1.out wr hBr g hgn
                go_region_held3 (fun w' => w'.cell? ⟨b0, o0 + g, none⟩ = some (.int .u64 (T g)) ∧ w'.cell? ⟨b1, o1 + g, none⟩ = some (.int .u32 (M g)))
                  (first | exact ⟨k0, k1⟩ | exact ⟨z0, z1⟩)
                  ((go_at_call 33; refine (zzgrant_any wA.heap.size (g : Int) O X 0 lt lm (T g) (M g) _ (by exact ⟨hTr.row⟩) h0 (by omega) (by omega) (by omega) o0' (by omega) x0' (by omega)).mono ?_; rintro e w1 ⟨rfl, hg1, hc1⟩; have k0 : w1.cell? ⟨b0, o0 + g, none⟩ = some (.int .u64 (T g)) := (hg1.cell_far _ (show b0 < wr.heap.size from by omega) (fun e => absurd (show b0 = wA.heap.size from Option.some.inj e) (by omega))).trans z0; have k1 : w1.cell? ⟨b1, o1 + g, none⟩ = some (.int .u32 (M g)) := (hg1.cell_far _ (show b1 < wr.heap.size from by omega) (fun e => absurd (show b1 = wA.heap.size from Option.some.inj e) (by omega))).trans z1))
                have hB1 : Below wA.heap.size wA w1 := hBr.drew.grown hg1 (show wA.heap.size ≤ wr.heap.size from by omega) (fun k hk => by injection hk with e; omega)
                have HR : Hid (∃ lt' lm', Ty wA.heap.size ((g : Int) + 1) O X (0 + 1) lt' lm' w1 ∧ Lat T M (g + 1) lt' lm') := by
                  rcases hc1 with ⟨hbf, hT1⟩ | ⟨hbf, hT1⟩
                  · exact absurd (LAT.out.hit hbf) (fun ⟨j, hj, e⟩ => by rw [NONE.out j hj] at e; cases e)
                  · exact ⟨_, _, by rw [OE.out] at hT1; exact hT1, LAT.out.next hbf⟩
                clear hc1 hg1 k0 k1 z0 z1
                go_wp2
                go_roundg (l2 - (i + 1))
                case measure => go_light; omega
                case rel =>
                  go_light
                  obtain ⟨lt', lm', hT1, hL1⟩ := HR.out
                  exact ⟨i + 1, g + 1, 0 + 1, O, X, lt', lm', hi, rfl, by go_num, by go_num, (by first | rfl | go_num), (by first | rfl | go_num), (by first | rfl | go_num | simp), by go_num, by rw [show ((g + 1 : Nat) : Int) = (g : Int) + 1 by omega]; exact hT1, hL1, by omega, by omega, by omega, by omega, by omega, by omega, by omega, by omega, hB1⟩
        · have i5 : (n : Int) ≤ (g : Int) := by omega
          go_wp2
          go_roundg (l2 - (i + 1))
          case measure => go_light; omega
          case rel => go_light; exact ⟨i + 1, g, h, O, X, lt, lm, hi, rfl, by go_num, rfl, rfl, rfl, rfl, rfl, hTr, LAT.out, hgn0, by omega, by omega, by omega, by omega, by omega, by omega, by omega, hBr⟩
    · obtain rfl : l2 = i := by omega
      obtain ⟨d0, d1, d2, d3, d4, _, _, _, _⟩ := hTr.cells
      have hfin := hBA.trans (hBr.mono hBA.size)
      go_wp2
      go_ret
      exact ⟨by simp, hfin⟩
end Go.Proofs.Qxb6003391a.Tal
