import Derived.Test.Qxb6003391aPas2
namespace Go.Proofs.Qxb6003391a.Pas
open Go.ChangeShapes Go.WideShapes Go.ChangeAt Go.RowKit

/-- The bound on total length: true where both are short. -/
theorem bytes_any (a0 a1 : Option Addr) (l0 c0 l1 c1 : Nat) (last : Bool) (time : Int) (w : World) (h0 : l0 ≤ maxLen) (h1 : l1 ≤ maxLen) :
    Calls Try.prog 12 #[.slice a0 l0 c0, .slice a1 l1 c1, .bool last, .int .u64 time] w fun e w' => ∃ r : Bool, e = .returned (.bool r) ∧ w = w' ∧ (l0 ≤ 65536 → l1 ≤ 65536 → r = true) := by
  unfold maxLen at h0 h1
  by_cases e0 : 1048576 < l0
  · have e0' : (1048576 : Int) < (l0 : Int) := by omega
    go_enter Try.func12, Try.ntmps12
    go_wp2
    go_ret
    exact ⟨false, rfl, rfl, fun h => by omega⟩
  by_cases e1 : 1048576 < l1
  · have e0' : (l0 : Int) ≤ 1048576 := by omega
    have e1' : (1048576 : Int) < (l1 : Int) := by omega
    go_enter Try.func12, Try.ntmps12
    go_wp2
    go_ret
    exact ⟨false, rfl, rfl, fun _ h => by omega⟩
  by_cases e2 : 1048576 < l0 + l1
  · have e0' : (l0 : Int) ≤ 1048576 := by omega
    have e1' : (l1 : Int) ≤ 1048576 := by omega
    have e2' : (1048576 : Int) < (l0 : Int) + (l1 : Int) := by omega
    go_enter Try.func12, Try.ntmps12
    go_wp2
    go_ret
    exact ⟨false, rfl, rfl, fun _ h => by omega⟩
  · have e0' : (l0 : Int) ≤ 1048576 := by omega
    have e1' : (l1 : Int) ≤ 1048576 := by omega
    have e2' : (l0 : Int) + (l1 : Int) ≤ 1048576 := by omega
    go_enter Try.func12, Try.ntmps12
    go_wp2
    go_ret
    exact ⟨true, rfl, rfl, fun _ _ => rfl⟩

set_option maxRecDepth 100000 in
set_option maxHeartbeats 1600000 in
/-- The ways that return ahead of the loops. -/
theorem early (a0 a1 : Option Addr) (l0 c0 l1 c1 : Nat) (last : Bool) (time : Int) (w : World) (h0 : l0 ≤ maxLen) (h1 : l1 ≤ maxLen) (h : 65536 < l0 ∨ 65536 < l1 ∨ 1048576 < 8 * l0 + 8 * l1) :
    Calls Try.prog 4 #[.slice a0 l0 c0, .slice a1 l1 c1, .bool last, .int .u64 time] w fun e w' => e = .returned (.bool true) ∧ Below w.heap.size w w' := by
  by_cases q0 : 65536 < l0
  · have q0' : (65536 : Int) < (l0 : Int) := by omega
    go_enter Try.func4, Try.ntmps4
    go_wp2_with fail
    refine (bytes_any _ _ _ _ _ _ _ _ _ h0 h1).mono ?_
    rintro e w' ⟨rb, rfl, rfl, _⟩
    cases rb
    all_goals
      go_wp2
      go_ret
      exact ⟨rfl, Below.refl _ _⟩
  by_cases q1 : 65536 < l1
  · have q0' : (l0 : Int) ≤ 65536 := by omega
    have q1' : (65536 : Int) < (l1 : Int) := by omega
    go_enter Try.func4, Try.ntmps4
    go_wp2_with fail
    refine (bytes_any _ _ _ _ _ _ _ _ _ h0 h1).mono ?_
    rintro e w' ⟨rb, rfl, rfl, _⟩
    cases rb
    all_goals
      go_wp2
      go_ret
      exact ⟨rfl, Below.refl _ _⟩
  omega

theorem psd_new (w : World) (a2 : Option Addr) (l0 cap2 : Nat) (f : Nat → Int) (a3 : Option Addr) (l1 cap3 : Nat) (g : Nat → Int) (last : Bool) (time : Int) (hen : En w a2 l0 f) (hou : Ou w a3 l1 g) :
    Psd (w.alloc (.cells #[.slice a2 l0 cap2, .slice a3 l1 cap3, .bool last, .int .u64 time, .bool false] 39)) w.heap.size a2 l0 cap2 f a3 l1 cap3 g last time := by
  have hB : Below w.heap.size w (w.alloc (.cells #[.slice a2 l0 cap2, .slice a3 l1 cap3, .bool last, .int .u64 time, .bool false] 39)) := (Below.refl _ _).alloc (Nat.le_refl _) _
  refine ⟨?_, ?_, ?_, ?_, by simp, hen.below hB (Nat.le_refl _), hou.below hB (Nat.le_refl _)⟩ <;> simp [go_sem]

set_option maxRecDepth 100000 in
set_option maxHeartbeats 8000000 in
theorem main_any (a0 a1 : Option Addr) (l0 c0 l1 c1 : Nat) (f g : Nat → Int) (last : Bool) (time : Int) (w : World) (h0 : Sl .u64 w a0 l0 f) (h1 : Sl .u64 w a1 l1 g) (hl0 : l0 ≤ 65536) (hl1 : l1 ≤ 65536) (hl : 8 * l0 + 8 * l1 ≤ 1048576)
    (hf0 : ∀ i, i < l0 → 0 ≤ f i) :
    Calls Try.prog 4 #[.slice a0 l0 c0, .slice a1 l1 c1, .bool last, .int .u64 time] w fun e w' => e = .returned (.bool true) ∧ Below w.heap.size w w' := by
  have t1 : decide (65536 < (l0 : Int)) = false := by simp; omega
  have t2 : decide (65536 < (l1 : Int)) = false := by simp; omega
  have t3 : decide (1048576 < 8 * (l0 : Int) + 8 * (l1 : Int)) = false := by simp; omega
  have HF0 : Hid (∀ i, i < l0 → 0 ≤ f i) := hf0
  clear hf0
  go_enter Try.func4, Try.ntmps4
  go_wp2_with fail
  refine (bytes_any _ _ _ _ _ _ _ _ _ (by unfold maxLen; omega) (by unfold maxLen; omega)).mono ?_
  rintro e w' ⟨rb, rfl, rfl, hrb⟩
  obtain rfl := hrb hl0 hl1
  clear hrb
  go_wp2
  go_loopg [9] (l0 - 1) (fun gk ctr wx => ∃ k : Nat, 1 ≤ k ∧ (k ≤ l0 ∨ k = 1) ∧ gk = l0 - k ∧ ctr = .int .i64 k ∧ (∀ i, 1 ≤ i → i < k → f (i - 1) ≤ f i) ∧ ∀ B, Below B w wx)
  case atStart => exact ⟨1, by omega, .inr rfl, rfl, rfl, fun i h1 h2 => by omega, fun B => Below.refl _ _⟩
  case round =>
    obtain ⟨k, hk1, hk2, rfl, rfl, hsort, hB⟩ := hrel
    have HS : Hid (∀ i, 1 ≤ i → i < k → f (i - 1) ≤ f i) := hsort
    clear hsort
    by_cases hlt : k < l0
    · rcases h0 with h | ⟨b, off, rfl, hb, hc⟩
      · omega
      have c1 : wr.cell? ⟨b, off + k, none⟩ = some (.int .u64 (f k)) := by rw [(hB w.heap.size).cell (p := ⟨b, off + k, none⟩) hb]; exact hc k hlt
      have c2 : wr.cell? ⟨b, off + (k - 1), none⟩ = some (.int .u64 (f (k - 1))) := by rw [(hB w.heap.size).cell (p := ⟨b, off + (k - 1), none⟩) hb]; exact hc (k - 1) (by omega)
      have i1 : (1 : Int) ≤ (k : Int) := by omega
      have i2 : (k : Int) < (l0 : Int) := by omega
      have i3 : (0 : Int) ≤ (k : Int) - 1 := by omega
      have i4 : (k : Int) - 1 < (l0 : Int) := by omega
      clear hk2
      by_cases q : f k < f (k - 1)
      · go_wp2
        go_quiet (fail)
        go_wp2
        go_ret
        exact ⟨rfl, below_drewN (hB _) _⟩
      · go_wp2
        go_quiet (fail)
        go_wp2
        go_roundg (l0 - (k + 1))
        case measure => go_light; omega
        case rel =>
          go_light
          refine ⟨k + 1, by omega, .inl hlt, rfl, by go_num, fun i h1 h2 => ?_, fun B => below_drewN (hB B) _⟩
          by_cases e : i = k
          · subst e; omega
          · exact HS.out i h1 (by omega)
    · have hM0 : mx 0 f l0 = lastT f l0 := mx_last f l0 HF0.out (fun i h1 h2 => HS.out i h1 (by omega))
      have HM0 : Hid (mx 0 f l0 = lastT f l0) := hM0
      clear hM0 HS HF0
      have g0 := h0.below (hB w.heap.size) (Nat.le_refl _)
      have g1 := h1.below (hB w.heap.size) (Nat.le_refl _)
      have hBW := hB w.heap.size
      clear h0 h1 hB
      go_wp2_with fail
      refine (cloneTimes_any _ _ _ _ _ g0 (by omega)).mono ?_
      rintro e w1 ⟨a0', cap0', rfl, s0, b1⟩
      go_wp2_with fail
      refine (cloneTimes_any _ _ _ _ _ (g1.below b1 (Nat.le_refl _)) (by omega)).mono ?_
      rintro e wA ⟨a1', cap1', rfl, s1, b2⟩
      have s0' := s0.below b2 (Nat.le_refl _)
      have hBA : Below w.heap.size w wA := (hBW.trans (b1.mono hBW.size)).trans (b2.mono (Nat.le_trans hBW.size b1.size))
      clear b1 b2 s0 g0 g1 hBW
      go_wp2
      go_loop [10, 11] (fun tv ctr => ∃ k : Nat, k ≤ l0 ∧ ctr = .int .i64 k ∧ tv = .int .u64 (mx 0 f k)) (fun _ i => l0 - (intOf i).toNat)
      case atStart => exact ⟨0, Nat.zero_le _, rfl, rfl⟩
      case round =>
        obtain ⟨k, hk, rfl, rfl⟩ := hrel
        by_cases hlt2 : k < l0
        · rcases s0' with h | ⟨b, off, rfl, hb, hc⟩
          · omega
          have c1 := hc k hlt2
          have i2 : (k : Int) < (l0 : Int) := by omega
          by_cases q : mx 0 f k < f k
          · have hmx : mx 0 f (k + 1) = f k := by simp only [mx]; omega
            have HM : Hid (mx 0 f (k + 1) = f k) := hmx
            clear hmx
            go_wp2
            go_round
            case rel => exact ⟨k + 1, hlt2, by go_num, by rw [HM.out]⟩
            case measure => simp [intOf]; omega
          · have hmx : mx 0 f (k + 1) = mx 0 f k := by simp only [mx]; omega
            have HM : Hid (mx 0 f (k + 1) = mx 0 f k) := hmx
            clear hmx
            go_wp2
            go_round
            case rel => exact ⟨k + 1, hlt2, by go_num, by rw [HM.out]⟩
            case measure => simp [intOf]; omega
        · obtain rfl : l0 = k := by omega
          obtain ⟨M, hM⟩ : ∃ M, M = mx 0 f l0 := ⟨_, rfl⟩
          rw [← hM]
          have eM : lastT f l0 = M := by rw [hM]; exact HM0.out.symm
          have EM : Hid (lastT f l0 = M) := eM
          clear eM hM HM0
          go_wp2
          go_loop [12, 13] (fun tv ctr => ∃ k : Nat, k ≤ l1 ∧ ctr = .int .i64 k ∧ tv = .int .u64 (mx M g k)) (fun _ i => l1 - (intOf i).toNat)
          case atStart => exact ⟨0, Nat.zero_le _, rfl, rfl⟩
          case round =>
            obtain ⟨k, hk5, rfl, rfl⟩ := hrel
            by_cases hlt3 : k < l1
            · rcases s1 with h | ⟨b, off, rfl, hb, hc⟩
              · omega
              have c1 := hc k hlt3
              have i2 : (k : Int) < (l1 : Int) := by omega
              by_cases q : mx M g k < g k
              · have hmx : mx M g (k + 1) = g k := by simp only [mx]; omega
                have HM : Hid (mx M g (k + 1) = g k) := hmx
                clear hmx
                go_wp2
                go_round
                case rel => exact ⟨k + 1, hlt3, by go_num, by rw [HM.out]⟩
                case measure => simp [intOf]; omega
              · have hmx : mx M g (k + 1) = mx M g k := by simp only [mx]; omega
                have HM : Hid (mx M g (k + 1) = mx M g k) := hmx
                clear hmx
                go_wp2
                go_round
                case rel => exact ⟨k + 1, hlt3, by go_num, by rw [HM.out]⟩
                case measure => simp [intOf]; omega
            · obtain rfl : l1 = k := by omega
              have hge := mx_ge M g l1
              have hrv : ∀ rev, mx M (fun i => g (rv rev l1 i)) l1 = mx M g l1 := fun rev => mx_rev M g l1 rev
              obtain ⟨X, hX⟩ : ∃ X, X = mx M g l1 := ⟨_, rfl⟩
              rw [← hX] at hge
              simp only [← hX]
              have HL : Hid (∀ rev lst tm, lat (lastT f l0) (fun i => g (rv rev l1 i)) l1 lst tm = if lst then max X tm else X) := fun rev lst tm => by
                rw [EM.out]; unfold lat; rw [hrv rev, hX]
              clear hX hrv
              cases last with
              | false =>
                obtain ⟨V, hV⟩ : ∃ V, V = X := ⟨_, rfl⟩
                have HV : Hid (∀ rev, lat (lastT f l0) (fun i => g (rv rev l1 i)) l1 false time = X) := fun rev => by rw [HL.out]; rfl
                clear HL hV V
                go_wp2_with fail
                refine (entries_any _ _ _ _ _ s0' (by omega)).mono ?_
                rintro e w3 ⟨a2, cap2, rfl, hen, b3⟩
                have s0'' := s0'.below b3 (Nat.le_refl _)
                have s1'' := s1.below b3 (Nat.le_refl _)
                go_wp2_with fail
                refine (out_any _ _ _ _ false _ s1'' (by omega)).mono ?_
                rintro e w4 ⟨a3, cap3, rfl, hou, b4⟩
                have hP : Psd (w4.alloc (.cells #[.slice a2 l0 cap2, .slice a3 l1 cap3, .bool false, .int .u64 time, .bool false] 39)) w4.heap.size a2 l0 cap2 f a3 l1 cap3 (fun i => g (rv false l1 i)) false time := psd_new w4 a2 l0 cap2 f a3 l1 cap3 _ false time (hen.below b4 (Nat.le_refl _)) hou
                have hB5 : Below w.heap.size w (w4.alloc (.cells #[.slice a2 l0 cap2, .slice a3 l1 cap3, .bool false, .int .u64 time, .bool false] 39)) := ((hBA.trans (b3.mono hBA.size)).trans (b4.mono (Nat.le_trans hBA.size b3.size))).alloc (Nat.le_trans hBA.size (Nat.le_trans b3.size b4.size)) _
                have s03 := (s0''.below b4 (Nat.le_refl _)).below ((Below.refl _ _).alloc (Nat.le_refl _) (.cells #[.slice a2 l0 cap2, .slice a3 l1 cap3, .bool false, .int .u64 time, .bool false] 39)) (Nat.le_refl _)
                have s13 := (s1''.below b4 (Nat.le_refl _)).below ((Below.refl _ _).alloc (Nat.le_refl _) (.cells #[.slice a2 l0 cap2, .slice a3 l1 cap3, .bool false, .int .u64 time, .bool false] 39)) (Nat.le_refl _)
                clear b3 b4 hen hou s0'' s1'' s0' s1 hBA
                go_wp2_with fail
                have hc := zzlatest_no _ _ _ _ _ _ _ _ _ _ _ _ hP hl0
                rw [EM.out] at hc
                refine hc.mono ?_
                rintro e w5 ⟨rfl, b5⟩
                clear hc
                have hP2 := hP.below b5
                have hB6 := hB5.trans (b5.mono hB5.size)
                have s04 := s03.below b5 (Nat.le_refl _)
                have s14 := s13.below b5 (Nat.le_refl _)
                clear b5 hP hB5 s03 s13
                go_wp2_with fail
                have hc := zzlatest_yes _ _ _ _ _ _ _ _ _ _ _ _ hP2 hl0 hl1
                rw [HV.out] at hc
                refine hc.mono ?_
                rintro e w6 ⟨rfl, b6⟩
                clear hc hP2
                have hB7 := hB6.trans (b6.mono hB6.size)
                have s05 := s04.below b6 (Nat.le_refl _)
                have s15 := s14.below b6 (Nat.le_refl _)
                clear b6 hB6 s04 s14
                go_wp2_with fail
                refine (entries_any _ _ _ _ _ s05 (by omega)).mono ?_
                rintro e w7 ⟨a4, cap4, rfl, hen, b3⟩
                have s1'' := s15.below b3 (Nat.le_refl _)
                go_wp2_with fail
                refine (out_any _ _ _ _ true _ s1'' (by omega)).mono ?_
                rintro e w8 ⟨a5, cap5, rfl, hou, b4⟩
                have hP : Psd (w8.alloc (.cells #[.slice a4 l0 cap4, .slice a5 l1 cap5, .bool false, .int .u64 time, .bool false] 39)) w8.heap.size a4 l0 cap4 f a5 l1 cap5 (fun i => g (rv true l1 i)) false time := psd_new w8 a4 l0 cap4 f a5 l1 cap5 _ false time (hen.below b4 (Nat.le_refl _)) hou
                have hB8 : Below w.heap.size w (w8.alloc (.cells #[.slice a4 l0 cap4, .slice a5 l1 cap5, .bool false, .int .u64 time, .bool false] 39)) := ((hB7.trans (b3.mono hB7.size)).trans (b4.mono (Nat.le_trans hB7.size b3.size))).alloc (Nat.le_trans hB7.size (Nat.le_trans b3.size b4.size)) _
                clear b3 b4 hen hou s1'' s05 s15 hB7
                go_wp2_with fail
                have hc := zzlatest_yes _ _ _ _ _ _ _ _ _ _ _ _ hP hl0 hl1
                rw [HV.out] at hc
                refine hc.mono ?_
                rintro e w9 ⟨rfl, b5⟩
                clear hc
                have hP2 := hP.below b5
                have hB9 := hB8.trans (b5.mono hB8.size)
                clear b5 hP hB8
                go_wp2_with fail
                have hc := zzlatest_no _ _ _ _ _ _ _ _ _ _ _ _ hP2 hl0
                rw [EM.out] at hc
                refine hc.mono ?_
                rintro e w10 ⟨rfl, b6⟩
                clear hc hP2
                have hB10 := hB9.trans (b6.mono hB9.size)
                clear b6 hB9
                go_wp2
                go_ret
                exact ⟨by simp, hB10⟩
              | true =>
                by_cases q : X < time
                · have HV : Hid (∀ rev, lat (lastT f l0) (fun i => g (rv rev l1 i)) l1 true time = time) := fun rev => by rw [HL.out]; simp only [if_true]; omega
                  have hge2 : M ≤ time := by omega
                  clear HL
                  go_wp2_with fail
                  refine (entries_any _ _ _ _ _ s0' (by omega)).mono ?_
                  rintro e w3 ⟨a2, cap2, rfl, hen, b3⟩
                  have s0'' := s0'.below b3 (Nat.le_refl _)
                  have s1'' := s1.below b3 (Nat.le_refl _)
                  go_wp2_with fail
                  refine (out_any _ _ _ _ false _ s1'' (by omega)).mono ?_
                  rintro e w4 ⟨a3, cap3, rfl, hou, b4⟩
                  have hP : Psd (w4.alloc (.cells #[.slice a2 l0 cap2, .slice a3 l1 cap3, .bool true, .int .u64 time, .bool false] 39)) w4.heap.size a2 l0 cap2 f a3 l1 cap3 (fun i => g (rv false l1 i)) true time := psd_new w4 a2 l0 cap2 f a3 l1 cap3 _ true time (hen.below b4 (Nat.le_refl _)) hou
                  have hB5 : Below w.heap.size w (w4.alloc (.cells #[.slice a2 l0 cap2, .slice a3 l1 cap3, .bool true, .int .u64 time, .bool false] 39)) := ((hBA.trans (b3.mono hBA.size)).trans (b4.mono (Nat.le_trans hBA.size b3.size))).alloc (Nat.le_trans hBA.size (Nat.le_trans b3.size b4.size)) _
                  have s03 := (s0''.below b4 (Nat.le_refl _)).below ((Below.refl _ _).alloc (Nat.le_refl _) (.cells #[.slice a2 l0 cap2, .slice a3 l1 cap3, .bool true, .int .u64 time, .bool false] 39)) (Nat.le_refl _)
                  have s13 := (s1''.below b4 (Nat.le_refl _)).below ((Below.refl _ _).alloc (Nat.le_refl _) (.cells #[.slice a2 l0 cap2, .slice a3 l1 cap3, .bool true, .int .u64 time, .bool false] 39)) (Nat.le_refl _)
                  clear b3 b4 hen hou s0'' s1'' s0' s1 hBA
                  go_wp2_with fail
                  have hc := zzlatest_no _ _ _ _ _ _ _ _ _ _ _ _ hP hl0
                  rw [EM.out] at hc
                  refine hc.mono ?_
                  rintro e w5 ⟨rfl, b5⟩
                  clear hc
                  have hP2 := hP.below b5
                  have hB6 := hB5.trans (b5.mono hB5.size)
                  have s04 := s03.below b5 (Nat.le_refl _)
                  have s14 := s13.below b5 (Nat.le_refl _)
                  clear b5 hP hB5 s03 s13
                  go_wp2_with fail
                  have hc := zzlatest_yes _ _ _ _ _ _ _ _ _ _ _ _ hP2 hl0 hl1
                  rw [HV.out] at hc
                  refine hc.mono ?_
                  rintro e w6 ⟨rfl, b6⟩
                  clear hc hP2
                  have hB7 := hB6.trans (b6.mono hB6.size)
                  have s05 := s04.below b6 (Nat.le_refl _)
                  have s15 := s14.below b6 (Nat.le_refl _)
                  clear b6 hB6 s04 s14
                  go_wp2_with fail
                  refine (entries_any _ _ _ _ _ s05 (by omega)).mono ?_
                  rintro e w7 ⟨a4, cap4, rfl, hen, b3⟩
                  have s1'' := s15.below b3 (Nat.le_refl _)
                  go_wp2_with fail
                  refine (out_any _ _ _ _ true _ s1'' (by omega)).mono ?_
                  rintro e w8 ⟨a5, cap5, rfl, hou, b4⟩
                  have hP : Psd (w8.alloc (.cells #[.slice a4 l0 cap4, .slice a5 l1 cap5, .bool true, .int .u64 time, .bool false] 39)) w8.heap.size a4 l0 cap4 f a5 l1 cap5 (fun i => g (rv true l1 i)) true time := psd_new w8 a4 l0 cap4 f a5 l1 cap5 _ true time (hen.below b4 (Nat.le_refl _)) hou
                  have hB8 : Below w.heap.size w (w8.alloc (.cells #[.slice a4 l0 cap4, .slice a5 l1 cap5, .bool true, .int .u64 time, .bool false] 39)) := ((hB7.trans (b3.mono hB7.size)).trans (b4.mono (Nat.le_trans hB7.size b3.size))).alloc (Nat.le_trans hB7.size (Nat.le_trans b3.size b4.size)) _
                  clear b3 b4 hen hou s1'' s05 s15 hB7
                  go_wp2_with fail
                  have hc := zzlatest_yes _ _ _ _ _ _ _ _ _ _ _ _ hP hl0 hl1
                  rw [HV.out] at hc
                  refine hc.mono ?_
                  rintro e w9 ⟨rfl, b5⟩
                  clear hc
                  have hP2 := hP.below b5
                  have hB9 := hB8.trans (b5.mono hB8.size)
                  clear b5 hP hB8
                  go_wp2_with fail
                  have hc := zzlatest_no _ _ _ _ _ _ _ _ _ _ _ _ hP2 hl0
                  rw [EM.out] at hc
                  refine hc.mono ?_
                  rintro e w10 ⟨rfl, b6⟩
                  clear hc hP2
                  have hB10 := hB9.trans (b6.mono hB9.size)
                  clear b6 hB9
                  go_wp2
                  go_ret
                  exact ⟨by simp, hB10⟩
                · have HV : Hid (∀ rev, lat (lastT f l0) (fun i => g (rv rev l1 i)) l1 true time = X) := fun rev => by rw [HL.out]; simp only [if_true]; omega
                  clear HL
                  go_wp2_with fail
                  refine (entries_any _ _ _ _ _ s0' (by omega)).mono ?_
                  rintro e w3 ⟨a2, cap2, rfl, hen, b3⟩
                  have s0'' := s0'.below b3 (Nat.le_refl _)
                  have s1'' := s1.below b3 (Nat.le_refl _)
                  go_wp2_with fail
                  refine (out_any _ _ _ _ false _ s1'' (by omega)).mono ?_
                  rintro e w4 ⟨a3, cap3, rfl, hou, b4⟩
                  have hP : Psd (w4.alloc (.cells #[.slice a2 l0 cap2, .slice a3 l1 cap3, .bool true, .int .u64 time, .bool false] 39)) w4.heap.size a2 l0 cap2 f a3 l1 cap3 (fun i => g (rv false l1 i)) true time := psd_new w4 a2 l0 cap2 f a3 l1 cap3 _ true time (hen.below b4 (Nat.le_refl _)) hou
                  have hB5 : Below w.heap.size w (w4.alloc (.cells #[.slice a2 l0 cap2, .slice a3 l1 cap3, .bool true, .int .u64 time, .bool false] 39)) := ((hBA.trans (b3.mono hBA.size)).trans (b4.mono (Nat.le_trans hBA.size b3.size))).alloc (Nat.le_trans hBA.size (Nat.le_trans b3.size b4.size)) _
                  have s03 := (s0''.below b4 (Nat.le_refl _)).below ((Below.refl _ _).alloc (Nat.le_refl _) (.cells #[.slice a2 l0 cap2, .slice a3 l1 cap3, .bool true, .int .u64 time, .bool false] 39)) (Nat.le_refl _)
                  have s13 := (s1''.below b4 (Nat.le_refl _)).below ((Below.refl _ _).alloc (Nat.le_refl _) (.cells #[.slice a2 l0 cap2, .slice a3 l1 cap3, .bool true, .int .u64 time, .bool false] 39)) (Nat.le_refl _)
                  clear b3 b4 hen hou s0'' s1'' s0' s1 hBA
                  go_wp2_with fail
                  have hc := zzlatest_no _ _ _ _ _ _ _ _ _ _ _ _ hP hl0
                  rw [EM.out] at hc
                  refine hc.mono ?_
                  rintro e w5 ⟨rfl, b5⟩
                  clear hc
                  have hP2 := hP.below b5
                  have hB6 := hB5.trans (b5.mono hB5.size)
                  have s04 := s03.below b5 (Nat.le_refl _)
                  have s14 := s13.below b5 (Nat.le_refl _)
                  clear b5 hP hB5 s03 s13
                  go_wp2_with fail
                  have hc := zzlatest_yes _ _ _ _ _ _ _ _ _ _ _ _ hP2 hl0 hl1
                  rw [HV.out] at hc
                  refine hc.mono ?_
                  rintro e w6 ⟨rfl, b6⟩
                  clear hc hP2
                  have hB7 := hB6.trans (b6.mono hB6.size)
                  have s05 := s04.below b6 (Nat.le_refl _)
                  have s15 := s14.below b6 (Nat.le_refl _)
                  clear b6 hB6 s04 s14
                  go_wp2_with fail
                  refine (entries_any _ _ _ _ _ s05 (by omega)).mono ?_
                  rintro e w7 ⟨a4, cap4, rfl, hen, b3⟩
                  have s1'' := s15.below b3 (Nat.le_refl _)
                  go_wp2_with fail
                  refine (out_any _ _ _ _ true _ s1'' (by omega)).mono ?_
                  rintro e w8 ⟨a5, cap5, rfl, hou, b4⟩
                  have hP : Psd (w8.alloc (.cells #[.slice a4 l0 cap4, .slice a5 l1 cap5, .bool true, .int .u64 time, .bool false] 39)) w8.heap.size a4 l0 cap4 f a5 l1 cap5 (fun i => g (rv true l1 i)) true time := psd_new w8 a4 l0 cap4 f a5 l1 cap5 _ true time (hen.below b4 (Nat.le_refl _)) hou
                  have hB8 : Below w.heap.size w (w8.alloc (.cells #[.slice a4 l0 cap4, .slice a5 l1 cap5, .bool true, .int .u64 time, .bool false] 39)) := ((hB7.trans (b3.mono hB7.size)).trans (b4.mono (Nat.le_trans hB7.size b3.size))).alloc (Nat.le_trans hB7.size (Nat.le_trans b3.size b4.size)) _
                  clear b3 b4 hen hou s1'' s05 s15 hB7
                  go_wp2_with fail
                  have hc := zzlatest_yes _ _ _ _ _ _ _ _ _ _ _ _ hP hl0 hl1
                  rw [HV.out] at hc
                  refine hc.mono ?_
                  rintro e w9 ⟨rfl, b5⟩
                  clear hc
                  have hP2 := hP.below b5
                  have hB9 := hB8.trans (b5.mono hB8.size)
                  clear b5 hP hB8
                  go_wp2_with fail
                  have hc := zzlatest_no _ _ _ _ _ _ _ _ _ _ _ _ hP2 hl0
                  rw [EM.out] at hc
                  refine hc.mono ?_
                  rintro e w10 ⟨rfl, b6⟩
                  clear hc hP2
                  have hB10 := hB9.trans (b6.mono hB9.size)
                  clear b6 hB9
                  go_wp2
                  go_ret
                  exact ⟨by simp, hB10⟩
end Go.Proofs.Qxb6003391a.Pas
