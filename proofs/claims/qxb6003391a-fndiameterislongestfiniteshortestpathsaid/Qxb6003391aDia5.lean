import Derived.Test.Qxb6003391aDia4
namespace Go.Proofs.Qxb6003391a.Dia
open Go.ChangeShapes Go.WideShapes Go.ChangeAt Go.RowKit
open Qxb6003391aDiaMath

theorem Try.info95 : (Try.prog.info? 95).map (fun i => (i.zero, i.size, i.bytes)) = some (some (.agg #[.int .i64 0, .int .i64 0]), 2, 16) := by kernel_rfl

theorem run_make_links (n : Nat) (h : n ≤ 1048576) (w : World) :
    (Instr.makeSlice 93 (.int .i64 (n : Int)) (.int .i64 (n : Int))).run Try.prog w = .ok (.slice (some ⟨w.heap.size, 0, none⟩) n n) (w.alloc (.cells (madeCells #[.int .i64 0, .int .i64 0] (n * 2)) 95)) := by
  obtain ⟨i, hi, hz, hs, hb⟩ := info_parts Try.info95
  have hr := run_make (P := Try.prog) w 93 95 i _ Try.underlying93 hi hz .i64 .i64 (n : Int) (n : Int) (by omega) (Int.le_refl _) (by rw [hb]; omega) (by omega)
  simp only [Int.toNat_natCast, hs] at hr
  exact hr

theorem rowIs_made2 (w : World) (n : Nat) : (w.alloc (.cells (madeCells #[.int .i64 0, .int .i64 0] (n * 2)) 95)).rowIs w.heap.size 95 (2 * n) (fun _ => .int .i64 0) := by
  refine ⟨_, Go.Deep.blk_alloc_new _ _, by rw [size_madeCells]; omega, fun i hi => ?_⟩
  have : i < n * 2 := by omega
  rcases Nat.mod_two_eq_zero_or_one i with e | e <;> simp [madeCells, this, e]

/-- The links' row behind k of them. -/
def lkz (F T : Nat → Nat) (k x : Nat) : Value := if x < 2 * k then lkv F T x else .int .i64 0

theorem lkz_step {F T : Nat → Nat} {w : World} {b n k : Nat} (h : w.rowIs b 95 n (lkz F T k)) :
    ((w.setCell ⟨b, k * 2, none⟩ (.int .i64 (F k))).setCell ⟨b, k * 2 + 1, none⟩ (.int .i64 (T k))).rowIs b 95 n (lkz F T (k + 1)) := by
  refine ((h.set (k * 2) _).set (k * 2 + 1) _).congr (fun x _ => ?_)
  unfold lkz
  by_cases e1 : x = k * 2 + 1
  · subst e1; rw [if_pos rfl, if_pos (by omega), lkv_odd]
  · rw [if_neg e1]
    by_cases e2 : x = k * 2
    · subst e2; rw [if_pos rfl, if_pos (by omega), lkv_even]
    · rw [if_neg e2]
      by_cases e3 : x < 2 * k
      · rw [if_pos e3, if_pos (by omega)]
      · rw [if_neg e3, if_neg (by omega)]

set_option maxHeartbeats 800000 in
theorem zz_any (n : Nat) (a0 a1 : Option Addr) (len cap0 cap1 : Nat) (F T : Nat → Nat) (w : World) (h0 : Sl .i64 w a0 len (fun i => (F i : Int))) (h1 : Sl .i64 w a1 len (fun i => (T i : Int))) (hn : n ≤ 32) (hlen : len ≤ 4096)
    (hF : ∀ i, i < len → F i < n) (hT : ∀ i, i < len → T i < n) :
    Calls Try.prog 27 #[.int .i64 n, .slice a0 len cap0, .slice a1 len cap1] w fun e w' => ∃ d : Int, e = .returned (.int .i64 d) ∧ Dia n (Ed F T len) n d ∧ d ≤ 32 ∧ Below w.heap.size w w' := by
  have hmk := run_make_links len (by omega)
  have hrow := rowIs_made2 w len
  go_enter Try.func27, Try.ntmps27
  go_wp2
  go_loopw [8] (fun i wr => ∃ k : Nat, k ≤ len ∧ i = .int .i64 k ∧ wr.rowIs w.heap.size 95 (2 * len) (lkz F T k) ∧ Below w.heap.size w wr) (fun i _ => len - (intOf i).toNat)
  case atStart => exact ⟨0, Nat.zero_le _, rfl, hrow.congr (fun i _ => by simp [lkz]), (Below.refl _ _).alloc (Nat.le_refl _) _⟩
  case round =>
    obtain ⟨k, hk, rfl, hrk, hbk⟩ := hrel
    by_cases hlt : k < len
    · rcases h0 with h | ⟨b0, o0, rfl, hb0, hc0⟩
      · omega
      rcases h1 with h | ⟨b1, o1, rfl, hb1, hc1⟩
      · omega
      have c0 : wr.cell? ⟨b0, o0 + k, none⟩ = some (.int .i64 (F k)) := by rw [hbk.cell (p := ⟨b0, o0 + k, none⟩) hb0]; exact hc0 k hlt
      have c1 : wr.cell? ⟨b1, o1 + k, none⟩ = some (.int .i64 (T k)) := by rw [hbk.cell (p := ⟨b1, o1 + k, none⟩) hb1]; exact hc1 k hlt
      have d0 := hrk.cell (i := k * 2) (by omega)
      have d1 := hrk.cell (i := k * 2 + 1) (by omega)
      have f0 := hrk.frozen (k * 2)
      have f1 := hrk.frozen (k * 2 + 1)
      have i1 : (0 : Int) ≤ (k : Int) := by omega
      have i2 : (k : Int) < (len : Int) := by omega
      have hst := lkz_step hrk
      go_wp2
      go_region
      go_wp2
      go_roundw
      case rel => exact ⟨k + 1, hlt, by go_num, hst.drew, ((Below.setCell (p := ⟨w.heap.size, k * 2, none⟩) hbk (Nat.le_refl _) _).setCell (p := ⟨w.heap.size, k * 2 + 1, none⟩) (Nat.le_refl _) _).drew⟩
      case measure => simp [intOf]; omega
    · obtain rfl : len = k := by omega
      have hr2 : wr.rowIs w.heap.size 95 (2 * len) (lkv F T) := hrk.congr (fun x hx => by unfold lkz; rw [if_pos hx])
      clear hrk hrow
      go_wp2_with (go_at_call 39; refine (dia_any F T n w.heap.size len len _ hn hlen hF hT hr2.lt hr2).mono ?_; rintro e w1 ⟨d, rfl, hd1, hd2, hd3⟩)
      go_ret
      exact ⟨d, rfl, hd1, hd2, hbk.trans (hd3.mono hbk.size)⟩

/-- The bound on total length: true where both are short. -/
theorem bytes_any (n : Int) (a0 a1 : Option Addr) (l0 c0 l1 c1 : Nat) (w : World) (h0 : l0 ≤ maxLen) (h1 : l1 ≤ maxLen) :
    Calls Try.prog 25 #[.int .i64 n, .slice a0 l0 c0, .slice a1 l1 c1] w fun e w' => ∃ r : Bool, e = .returned (.bool r) ∧ w = w' ∧ (l0 ≤ 4096 → l1 ≤ 4096 → r = true) := by
  unfold maxLen at h0 h1
  by_cases e0 : 1048576 < l0
  · have e0' : (1048576 : Int) < (l0 : Int) := by omega
    go_enter Try.func25, Try.ntmps25
    go_wp2
    go_ret
    exact ⟨false, rfl, rfl, fun h => by omega⟩
  by_cases e1 : 1048576 < l1
  · have e0' : (l0 : Int) ≤ 1048576 := by omega
    have e1' : (1048576 : Int) < (l1 : Int) := by omega
    go_enter Try.func25, Try.ntmps25
    go_wp2
    go_ret
    exact ⟨false, rfl, rfl, fun _ h => by omega⟩
  by_cases e2 : 1048576 < l0 + l1
  · have e0' : (l0 : Int) ≤ 1048576 := by omega
    have e1' : (l1 : Int) ≤ 1048576 := by omega
    have e2' : (1048576 : Int) < (l0 : Int) + (l1 : Int) := by omega
    go_enter Try.func25, Try.ntmps25
    go_wp2
    go_ret
    exact ⟨false, rfl, rfl, fun _ h => by omega⟩
  · have e0' : (l0 : Int) ≤ 1048576 := by omega
    have e1' : (l1 : Int) ≤ 1048576 := by omega
    have e2' : (l0 : Int) + (l1 : Int) ≤ 1048576 := by omega
    go_enter Try.func25, Try.ntmps25
    go_wp2
    go_ret
    exact ⟨true, rfl, rfl, fun _ _ => rfl⟩
end Go.Proofs.Qxb6003391a.Dia
