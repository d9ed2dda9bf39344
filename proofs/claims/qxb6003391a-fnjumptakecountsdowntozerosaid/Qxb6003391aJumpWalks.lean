import Derived.Test.Qxb6003391aRows
import Derived.WalkKit
import Derived.ProofKit
import Derived.OpenShut
import Derived.ShutString
import Derived.BigQuiet
import Derived.Deep.QuietTactic
namespace Go.Proofs.Qxb6003391a.fnJumpTakeCountsDownToZero
open Go.ChangeShapes Go.WideShapes Go.ChangeAt Go.RowKit

theorem take_nil (w : World) : Calls Try.prog 37 #[.pointer none] w fun e w' => e = .returned (.tuple #[]) ∧ w = w' := by
  go_enter Try.func37, Try.ntmps37
  go_wp2
  go_end0
  exact ⟨rfl, rfl⟩

theorem zztake_nil (w : World) : Calls Try.prog 17 #[.pointer none] w fun e w' => e = .returned (.tuple #[]) ∧ w = w' := by
  go_enter Try.func17, Try.ntmps17
  go_wp2_with (go_at_call 37; refine (take_nil _).mono ?_; rintro e w' ⟨rfl, rfl⟩)
  go_end0
  exact ⟨rfl, rfl⟩

theorem take_some (b : Nat) (m : Int) (hm : 0 < m) (hm2 : m < 18446744073709551616) (w : World) (hc : w.cell? ⟨b, 2, none⟩ = some (.int .u64 m)) (hf : w.frozen? ⟨b, 2, none⟩ = false) :
    Calls Try.prog 37 #[.pointer (some ⟨b, 0, none⟩)] w fun e w' => e = .returned (.tuple #[]) ∧ w' = w.setCell ⟨b, 2, none⟩ (.int .u64 (m - 1)) := by
  go_enter Try.func37, Try.ntmps37
  go_wp2
  go_end0
  exact ⟨rfl, rfl⟩

theorem take_zero (b : Nat) (w : World) (hc : w.cell? ⟨b, 2, none⟩ = some (.int .u64 0)) :
    Calls Try.prog 37 #[.pointer (some ⟨b, 0, none⟩)] w fun e w' => e = .returned (.tuple #[]) ∧ w' = w := by
  go_enter Try.func37, Try.ntmps37
  go_wp2
  go_end0
  exact ⟨rfl, rfl⟩

theorem fields_any (b : Nat) (lo hi m p : Int) (w : World) (h0 : w.cell? ⟨b, 0, none⟩ = some (.int .u64 lo)) (h1 : w.cell? ⟨b, 1, none⟩ = some (.int .u64 hi)) (h2 : w.cell? ⟨b, 2, none⟩ = some (.int .u64 m)) (h3 : w.cell? ⟨b, 3, none⟩ = some (.int .u32 p)) :
    Calls Try.prog 19 #[.pointer (some ⟨b, 0, none⟩)] w fun e w' => e = .returned (.tuple #[.int .u64 lo, .int .u64 hi, .int .u64 m, .int .u32 p]) ∧ ∃ n, w' = w.drewN n := by
  go_enter Try.func19, Try.ntmps19
  go_wp2
  go_quiet (fail)
  go_wp2
  exact bodyPost_ret (v := .tuple #[.int .u64 lo, .int .u64 hi, .int .u64 m, .int .u32 p]) (by simp [results, Try.results19, go_sem]) rfl ⟨rfl, _, rfl⟩

theorem new_any (lo hi m p : Int) (w : World) :
    Calls Try.prog 18 #[.int .u64 lo, .int .u64 hi, .int .u64 m, .int .u32 p] w fun e w' => e = .returned (.pointer (some ⟨w.heap.size, 0, none⟩)) ∧ w' = w.alloc (.cells #[.int .u64 lo, .int .u64 hi, .int .u64 m, .int .u32 p, .int .i64 0, .int .u64 0] 85) := by
  go_enter Try.func18, Try.ntmps18
  go_wp2
  go_ret
  exact ⟨rfl, rfl⟩

/-- What the jump at block b holds. -/
structure J (b : Nat) (lo hi m p : Int) (w : World) : Prop where
  c0 : w.cell? ⟨b, 0, none⟩ = some (.int .u64 lo)
  c1 : w.cell? ⟨b, 1, none⟩ = some (.int .u64 hi)
  c2 : w.cell? ⟨b, 2, none⟩ = some (.int .u64 m)
  c3 : w.cell? ⟨b, 3, none⟩ = some (.int .u32 p)
  f2 : w.frozen? ⟨b, 2, none⟩ = false

theorem J.set {b : Nat} {lo hi m p m' : Int} {w : World} (h : J b lo hi m p w) : J b lo hi m' p (w.setCell ⟨b, 2, none⟩ (.int .u64 m')) := by
  obtain ⟨c0, c1, c2, c3, f2⟩ := h
  constructor
  · simp [go_sem, *]
  · simp [go_sem, *]
  · simp [go_sem, *]
  · simp [go_sem, *]
  · simp [go_sem, *]

def dn (m : Int) : Int := if 0 < m then m - 1 else m

theorem take_any (b : Nat) (lo hi m p : Int) (hm0 : 0 ≤ m) (hm2 : m < 18446744073709551616) (w : World) (h : J b lo hi m p w) :
    Calls Try.prog 37 #[.pointer (some ⟨b, 0, none⟩)] w fun e w' => e = .returned (.tuple #[]) ∧ J b lo hi (dn m) p w' ∧ Below b w w' := by
  by_cases hm : 0 < m
  · refine (take_some b m hm hm2 w h.c2 h.f2).mono ?_
    rintro e w' ⟨rfl, rfl⟩
    refine ⟨rfl, ?_, Below.setCell (Below.refl b w) (p := ⟨b, 2, none⟩) (Nat.le_refl _) _⟩
    simp only [dn, if_pos hm]
    exact h.set
  · obtain rfl : m = 0 := by omega
    refine (take_zero b w h.c2).mono ?_
    rintro e w' ⟨rfl, rfl⟩
    exact ⟨rfl, by simpa [dn] using h, Below.refl _ _⟩

theorem zztake_any (b : Nat) (lo hi m p : Int) (hm0 : 0 ≤ m) (hm2 : m < 18446744073709551616) (w : World) (h : J b lo hi m p w) :
    Calls Try.prog 17 #[.pointer (some ⟨b, 0, none⟩)] w fun e w' => e = .returned (.tuple #[]) ∧ J b lo hi (dn m) p w' ∧ Below b w w' := by
  go_enter Try.func17, Try.ntmps17
  go_wp2_with (go_at_call 37; refine (take_any b lo hi m p hm0 hm2 _ h).mono ?_; rintro e w' ⟨rfl, hJ, hB⟩)
  go_end0
  exact ⟨rfl, hJ, hB⟩

theorem J.drewN {b : Nat} {lo hi m p : Int} {w : World} (h : J b lo hi m p w) (n : Nat) : J b lo hi m p (w.drewN n) := by
  obtain ⟨c0, c1, c2, c3, f2⟩ := h
  constructor <;> simp [go_sem, *]

theorem below_drewN {B : Nat} {w w' : World} (h : Below B w w') (n : Nat) : Below B w (w'.drewN n) := ⟨h.os, h.tape, h.output, h.size, h.block⟩

theorem fields_J (b : Nat) (lo hi m p : Int) (w : World) (h : J b lo hi m p w) :
    Calls Try.prog 19 #[.pointer (some ⟨b, 0, none⟩)] w fun e w' => e = .returned (.tuple #[.int .u64 lo, .int .u64 hi, .int .u64 m, .int .u32 p]) ∧ J b lo hi m p w' ∧ Below b w w' := by
  refine (fields_any b lo hi m p w h.c0 h.c1 h.c2 h.c3).mono ?_
  rintro e w' ⟨rfl, n, rfl⟩
  exact ⟨rfl, h.drewN n, below_drewN (Below.refl _ _) n⟩

theorem new_J (lo hi m p : Int) (w : World) :
    Calls Try.prog 18 #[.int .u64 lo, .int .u64 hi, .int .u64 m, .int .u32 p] w fun e w' => e = .returned (.pointer (some ⟨w.heap.size, 0, none⟩)) ∧ J w.heap.size lo hi m p w' ∧ Below w.heap.size w w' := by
  refine (new_any lo hi m p w).mono ?_
  rintro e w' ⟨rfl, rfl⟩
  refine ⟨rfl, ?_, (Below.refl _ _).alloc (Nat.le_refl _) _⟩
  constructor <;> simp [go_sem]

/-- m, counted down k times. -/
def left (m : Int) (k : Nat) : Int := if (k : Int) < m then m - k else 0
theorem left_zero (m : Int) (h : 0 ≤ m) : left m 0 = m := by unfold left; split <;> omega
theorem left_succ (m : Int) (k : Nat) : dn (left m k) = left m (k + 1) := by unfold dn left; split <;> split <;> split <;> omega
theorem left_bd (m : Int) (_h : 0 ≤ m) (k : Nat) : 0 ≤ left m k ∧ left m k ≤ m ∧ left m (k + 1) ≤ left m k := by unfold left; split <;> split <;> omega

theorem walk_no (a0 a1 a2 a3 a4 : Int) (w : World) (h : a4 < 0 ∨ 65536 < a4) :
    Calls Try.prog 5 #[.int .u64 a0, .int .u64 a1, .int .u64 a2, .int .u32 a3, .int .i64 a4] w fun e w' => e = .returned (.bool true) ∧ Below w.heap.size w w' := by
  rcases h with h | h
  · go_enter Try.func5, Try.ntmps5
    go_wp2
    go_ret
    exact ⟨rfl, Below.refl _ _⟩
  · have h' : ¬ a4 < 0 := by omega
    go_enter Try.func5, Try.ntmps5
    go_wp2
    go_ret
    exact ⟨rfl, Below.refl _ _⟩

set_option maxHeartbeats 400000 in
theorem walk_yes (a0 a1 a2 a3 : Int) (t : Nat) (w : World) (ht : t ≤ 65536) (h20 : 0 ≤ a2) (h21 : a2 < 18446744073709551616) :
    Calls Try.prog 5 #[.int .u64 a0, .int .u64 a1, .int .u64 a2, .int .u32 a3, .int .i64 t] w fun e w' => e = .returned (.bool true) ∧ Below w.heap.size w w' := by
  have hz := left_zero a2 h20
  have HZ : Hid (left a2 0 = a2) := hz
  clear hz
  have t0 : decide ((t : Int) < 0) = false := by simp
  have t1 : decide (65536 < (t : Int)) = false := by simp; omega
  go_enter Try.func5, Try.ntmps5
  go_wp2_with (first
    | (go_at_call 17; refine (zztake_nil _).mono ?_; rintro e w' ⟨rfl, rfl⟩)
    | (go_at_call 18; refine (new_J a0 a1 a2 a3 _).mono ?_; rintro e w' ⟨rfl, hJ, hB⟩))
  go_loopw [12, 13] (fun pv i wr => ∃ k : Nat, k ≤ t ∧ i = .int .i64 k ∧ pv = .int .u64 (left a2 k) ∧ J w.heap.size a0 a1 (left a2 k) a3 wr ∧ Below w.heap.size w wr) (fun _ i _ => t - (intOf i).toNat)
  case atStart => exact ⟨0, Nat.zero_le _, rfl, by rw [HZ.out], by rw [HZ.out]; exact hJ, hB⟩
  case round =>
    obtain ⟨k, hk, rfl, rfl, hJr, hBr⟩ := hrel
    obtain ⟨hb0, hb1, hb2⟩ := left_bd a2 h20 k
    have HS := left_succ a2 k
    have HS' : Hid (dn (left a2 k) = left a2 (k + 1)) := HS
    clear HS
    by_cases hlt : k < t
    · go_wp2_with (first
        | (go_at_call 17; refine (zztake_any w.heap.size a0 a1 (left a2 k) a3 hb0 (by omega) _ hJr).mono ?_; rintro e w1 ⟨rfl, hJ1, hB1⟩; rw [HS'.out] at hJ1)
        | (go_at_call 19; refine (fields_J w.heap.size a0 a1 (left a2 (k + 1)) a3 _ hJ1).mono ?_; rintro e w2 ⟨rfl, hJ2, hB2⟩))
      go_roundw
      case rel => exact ⟨k + 1, by omega, by go_num, rfl, hJ2, (hBr.trans hB1).trans hB2⟩
      case measure => simp [intOf]; omega
    · have hkt : k = t := by omega
      subst hkt
      by_cases hm : (k : Int) < a2
      · have e0 : left a2 k = a2 - k := by unfold left; rw [if_pos hm]
        go_wp2_with (go_at_call 19; refine (fields_J w.heap.size a0 a1 (left a2 k) a3 _ hJr).mono ?_; rintro e w2 ⟨rfl, hJ2, hB2⟩)
        go_ret
        exact ⟨by simp, hBr.trans hB2⟩
      · have e0 : left a2 k = 0 := by unfold left; rw [if_neg hm]
        go_wp2_with (go_at_call 19; refine (fields_J w.heap.size a0 a1 (left a2 k) a3 _ hJr).mono ?_; rintro e w2 ⟨rfl, hJ2, hB2⟩)
        go_ret
        exact ⟨by simp, hBr.trans hB2⟩
end Go.Proofs.Qxb6003391a.fnJumpTakeCountsDownToZero
