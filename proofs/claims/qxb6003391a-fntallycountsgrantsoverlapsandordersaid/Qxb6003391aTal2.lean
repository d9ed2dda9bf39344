import Derived.Test.Qxb6003391aTal1
namespace Go.Proofs.Qxb6003391a.Tal
open Go.ChangeShapes Go.WideShapes Go.ChangeAt Go.RowKit
open Cmp (bef before_any bef_lt bef_gt bef_eq ret_bool)
set_option linter.unusedVariables false

/-- The overlaps behind a grant. -/
def ov (h O : Int) : Int := if 0 < h then O + 1 else O

/-- What a grant makes of the counts. -/
theorem grant_any (b : Nat) (G O X h : Int) (lt lm t m : Nat) (w : World) (hT : Ty b G O X h lt lm w) (h0 : 0 ≤ h) (h1 : h ≤ 4096) (g0 : 0 ≤ G) (g1 : G ≤ 4096) (o0 : 0 ≤ O) (o1 : O ≤ 4096) (x0 : 0 ≤ X) (x1 : X ≤ 4096) :
    Calls Try.prog 40 #[.pointer (some ⟨b, 0, none⟩), .agg #[.int .u64 t, .int .u32 m]] w fun e w' => e = .returned (.tuple #[]) ∧ w.grownBy w' (some b) ∧
      ((bef t m lt lm = true ∧ Ty b (G + 1) (ov h O) (X + 1) (h + 1) lt lm w') ∨ (bef t m lt lm = false ∧ Ty b (G + 1) (ov h O) X (h + 1) t m w')) := by
  by_cases hp : 0 < h
  · rw [show ov h O = O + 1 by unfold ov; rw [if_pos hp]]
    exact grant_pos b G O X h lt lm t m w hT hp h1 g0 g1 o0 o1 x0 x1
  · rw [show ov h O = O by unfold ov; rw [if_neg hp]]
    exact grant_zero b G O X h lt lm t m w hT (by omega) h1 g0 g1 o0 o1 x0 x1

theorem zzgrant_any (b : Nat) (G O X h : Int) (lt lm t m : Nat) (w : World) (hT : Ty b G O X h lt lm w) (h0 : 0 ≤ h) (h1 : h ≤ 4096) (g0 : 0 ≤ G) (g1 : G ≤ 4096) (o0 : 0 ≤ O) (o1 : O ≤ 4096) (x0 : 0 ≤ X) (x1 : X ≤ 4096) :
    Calls Try.prog 33 #[.pointer (some ⟨b, 0, none⟩), .int .u64 t, .int .u32 m] w fun e w' => e = .returned (.tuple #[]) ∧ w.grownBy w' (some b) ∧
      ((bef t m lt lm = true ∧ Ty b (G + 1) (ov h O) (X + 1) (h + 1) lt lm w') ∨ (bef t m lt lm = false ∧ Ty b (G + 1) (ov h O) X (h + 1) t m w')) := by
  go_enter Try.func33, Try.ntmps33
  go_wp2_with fail
  refine (grant_any b G O X h lt lm t m _ hT h0 h1 g0 g1 o0 o1 x0 x1).mono ?_
  rintro e w1 ⟨rfl, hg, hc⟩
  have HG : Hid (w.grownBy w1 (some b) ∧ ((bef t m lt lm = true ∧ Ty b (G + 1) (ov h O) (X + 1) (h + 1) lt lm w1) ∨ (bef t m lt lm = false ∧ Ty b (G + 1) (ov h O) X (h + 1) t m w1))) := ⟨hg, hc⟩
  clear hg hc
  go_wp2
  go_end0
  exact ⟨rfl, HG.out⟩

theorem zzrelease_any (b : Nat) (G O X h : Int) (lt lm : Nat) (w : World) (hT : Ty b G O X h lt lm w) (h0 : 0 ≤ h) (h1 : h ≤ 4096) :
    Calls Try.prog 34 #[.pointer (some ⟨b, 0, none⟩)] w fun e w' => e = .returned (.tuple #[]) ∧ Ty b G O X (h - 1) lt lm w' ∧ w.grownBy w' (some b) := by
  go_enter Try.func34, Try.ntmps34
  go_wp2_with (go_at_call 41; refine (release_any b G O X h lt lm _ hT h0 h1).mono ?_; rintro e w1 ⟨rfl, hT1, hg1⟩)
  go_end0
  exact ⟨rfl, hT1, hg1⟩

theorem less_any (t m t' m' : Nat) (w : World) : Calls Try.prog 32 #[.int .u64 t, .int .u32 m, .int .u64 t', .int .u32 m'] w fun e w' => e = .returned (.bool (bef t m t' m')) ∧ w' = w := by
  by_cases h1 : t < t'
  · have HE : Hid (bef t m t' m' = true) := bef_lt h1
    go_enter Try.func32, Try.ntmps32
    go_wp2
    go_ret
    exact ⟨by rw [HE.out]; rfl, rfl⟩
  by_cases h2 : t' < t
  · have HE : Hid (bef t m t' m' = false) := bef_gt h2
    go_enter Try.func32, Try.ntmps32
    go_wp2
    go_ret
    exact ⟨by rw [HE.out]; rfl, rfl⟩
  · obtain rfl : t = t' := by omega
    have HE : Hid (bef t m t m' = decide (m < m')) := bef_eq
    go_enter Try.func32, Try.ntmps32
    go_wp2
    go_ret
    exact ⟨by rw [HE.out]; exact ret_bool (by simp), rfl⟩

theorem bytes_any (a0 a1 a2 : Option Addr) (l0 c0 l1 c1 l2 c2 : Nat) (w : World) (h0 : l0 ≤ maxLen) (h1 : l1 ≤ maxLen) (h2 : l2 ≤ maxLen) :
    Calls Try.prog 28 #[.slice a0 l0 c0, .slice a1 l1 c1, .slice a2 l2 c2] w fun e w' => ∃ r : Bool, e = .returned (.bool r) ∧ w = w' ∧ (l0 ≤ 1024 → l1 ≤ 1024 → l2 ≤ 2048 → r = true) := by
  unfold maxLen at h0 h1 h2
  by_cases e0 : 1048576 < l0
  · have e0' : (1048576 : Int) < (l0 : Int) := by omega
    go_enter Try.func28, Try.ntmps28
    go_wp2
    go_ret
    exact ⟨false, rfl, rfl, fun h => by omega⟩
  have e0' : (l0 : Int) ≤ 1048576 := by omega
  by_cases e1 : 1048576 < l1
  · have e1' : (1048576 : Int) < (l1 : Int) := by omega
    go_enter Try.func28, Try.ntmps28
    go_wp2
    go_ret
    exact ⟨false, rfl, rfl, fun _ h => by omega⟩
  have e1' : (l1 : Int) ≤ 1048576 := by omega
  by_cases e2 : 1048576 < l0 + l1
  · have e2' : (1048576 : Int) < (l0 : Int) + (l1 : Int) := by omega
    go_enter Try.func28, Try.ntmps28
    go_wp2
    go_ret
    exact ⟨false, rfl, rfl, fun _ h => by omega⟩
  have e2' : (l0 : Int) + (l1 : Int) ≤ 1048576 := by omega
  by_cases e3 : 1048576 < l2
  · have e3' : (1048576 : Int) < (l2 : Int) := by omega
    go_enter Try.func28, Try.ntmps28
    go_wp2
    go_ret
    exact ⟨false, rfl, rfl, fun _ _ h => by omega⟩
  have e3' : (l2 : Int) ≤ 1048576 := by omega
  by_cases e4 : 1048576 < l0 + l1 + l2
  · have e4' : (1048576 : Int) < (l0 : Int) + (l1 : Int) + (l2 : Int) := by omega
    go_enter Try.func28, Try.ntmps28
    go_wp2
    go_ret
    exact ⟨false, rfl, rfl, fun _ _ h => by omega⟩
  · have e4' : (l0 : Int) + (l1 : Int) + (l2 : Int) ≤ 1048576 := by omega
    go_enter Try.func28, Try.ntmps28
    go_wp2
    go_ret
    exact ⟨true, rfl, rfl, fun _ _ _ => rfl⟩

set_option maxRecDepth 100000 in
set_option maxHeartbeats 1600000 in
/-- The ways that return ahead of the loops. -/
theorem early (a0 a1 a2 : Option Addr) (l0 c0 l1 c1 l2 c2 : Nat) (w : World) (h0 : l0 ≤ maxLen) (h1 : l1 ≤ maxLen) (h2 : l2 ≤ maxLen) (h : 1024 < l0 ∨ 1024 < l1 ∨ 2048 < l2 ∨ l0 ≠ l1) :
    Calls Try.prog 8 #[.slice a0 l0 c0, .slice a1 l1 c1, .slice a2 l2 c2] w fun e w' => e = .returned (.bool true) ∧ Below w.heap.size w w' := by
  by_cases q0 : 1024 < l0
  · have q0' : (1024 : Int) < (l0 : Int) := by omega
    go_enter Try.func8, Try.ntmps8
    go_wp2_with fail
    refine (bytes_any _ _ _ _ _ _ _ _ _ _ h0 h1 h2).mono ?_
    rintro e w' ⟨rb, rfl, rfl, _⟩
    cases rb
    all_goals
      go_wp2
      go_ret
      exact ⟨rfl, Below.refl _ _⟩
  have q0' : (l0 : Int) ≤ 1024 := by omega
  by_cases q1 : 1024 < l1
  · have q1' : (1024 : Int) < (l1 : Int) := by omega
    go_enter Try.func8, Try.ntmps8
    go_wp2_with fail
    refine (bytes_any _ _ _ _ _ _ _ _ _ _ h0 h1 h2).mono ?_
    rintro e w' ⟨rb, rfl, rfl, _⟩
    cases rb
    all_goals
      go_wp2
      go_ret
      exact ⟨rfl, Below.refl _ _⟩
  have q1' : (l1 : Int) ≤ 1024 := by omega
  by_cases q2 : 2048 < l2
  · have q2' : (2048 : Int) < (l2 : Int) := by omega
    go_enter Try.func8, Try.ntmps8
    go_wp2_with fail
    refine (bytes_any _ _ _ _ _ _ _ _ _ _ h0 h1 h2).mono ?_
    rintro e w' ⟨rb, rfl, rfl, _⟩
    cases rb
    all_goals
      go_wp2
      go_ret
      exact ⟨rfl, Below.refl _ _⟩
  have q2' : (l2 : Int) ≤ 2048 := by omega
  have q4 : ((l0 : Int) != (l1 : Int)) = true := by rw [bne_iff_ne]; omega
  clear h
  go_enter Try.func8, Try.ntmps8
  go_wp2_with fail
  refine (bytes_any _ _ _ _ _ _ _ _ _ _ h0 h1 h2).mono ?_
  rintro e w' ⟨rb, rfl, rfl, hrb⟩
  obtain rfl := hrb (by omega) (by omega) (by omega)
  go_wp2
  go_ret
  exact ⟨rfl, Below.refl _ _⟩

/-! ### The plain law: the latest stamp tells whether some earlier one comes behind -/
/-- (lt, lm) is the greatest of the first g stamps, (0, 0) where there is none. -/
def Lat (T M : Nat → Nat) (g lt lm : Nat) : Prop := (∀ j, j < g → bef lt lm (T j) (M j) = false) ∧ ((g = 0 ∧ lt = 0 ∧ lm = 0) ∨ ∃ j, j < g ∧ lt = T j ∧ lm = M j)
theorem Lat.start (T M : Nat → Nat) : Lat T M 0 0 0 := ⟨fun j hj => by omega, .inl ⟨rfl, rfl, rfl⟩⟩
theorem bef_iff {t m t' m' : Nat} : bef t m t' m' = true ↔ (t < t' ∨ (t = t' ∧ m < m')) := by simp [bef]
theorem bef_iff' {t m t' m' : Nat} : bef t m t' m' = false ↔ ¬ (t < t' ∨ (t = t' ∧ m < m')) := by simp only [bef, decide_eq_false_iff_not]
/-- It comes before the latest: so before some earlier one. -/
theorem Lat.hit {T M : Nat → Nat} {g lt lm t m : Nat} (h : Lat T M g lt lm) (hb : bef t m lt lm = true) : ∃ j, j < g ∧ bef t m (T j) (M j) = true := by
  rcases h.2 with ⟨_, rfl, rfl⟩ | ⟨j, hj, rfl, rfl⟩
  · rw [bef_iff] at hb; omega
  · exact ⟨j, hj, hb⟩
/-- It comes before an earlier one: so before the latest. -/
theorem Lat.some {T M : Nat → Nat} {g lt lm t m j : Nat} (h : Lat T M g lt lm) (hj : j < g) (hb : bef t m (T j) (M j) = true) : bef t m lt lm = true := by
  have h1 := h.1 j hj
  rw [bef_iff] at hb ⊢
  rw [bef_iff'] at h1
  omega
theorem Lat.keep {T M : Nat → Nat} {g lt lm : Nat} (h : Lat T M g lt lm) (hb : bef (T g) (M g) lt lm = true) : Lat T M (g + 1) lt lm := by
  refine ⟨fun j hj => ?_, ?_⟩
  · by_cases e : j = g
    · subst e; rw [bef_iff'] ; rw [bef_iff] at hb; omega
    · exact h.1 j (by omega)
  · rcases h.2 with ⟨_, rfl, rfl⟩ | ⟨j, hj, r⟩
    · rw [bef_iff] at hb; omega
    · exact .inr ⟨j, by omega, r⟩
theorem Lat.next {T M : Nat → Nat} {g lt lm : Nat} (h : Lat T M g lt lm) (hb : bef (T g) (M g) lt lm = false) : Lat T M (g + 1) (T g) (M g) := by
  refine ⟨fun j hj => ?_, .inr ⟨g, by omega, rfl, rfl⟩⟩
  by_cases e : j = g
  · subst e; rw [bef_iff']; omega
  · have h1 := h.1 j (by omega)
    rw [bef_iff'] at h1 hb ⊢
    omega
end Go.Proofs.Qxb6003391a.Tal
