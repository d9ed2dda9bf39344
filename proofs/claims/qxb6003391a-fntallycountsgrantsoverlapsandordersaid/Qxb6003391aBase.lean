import Derived.Test.Qxb6003391aRows
import Derived.WalkKit
import Derived.ProofKit
import Derived.OpenShut
import Derived.ShutString
import Derived.WalkSpells
import Derived.Deep.OwnRows
import Derived.Below
import Derived.Deep.QuietTactic
import Derived.BigQuiet
namespace Go.Proofs.Qxb6003391a
open Go.ChangeShapes Go.WideShapes Go.ChangeAt Go.RowKit

/-- A slice of integers of kind k that reads as f 0 .. f (len - 1). -/
def Sl (k : IntKind) (w : World) (a : Option Addr) (len : Nat) (f : Nat → Int) : Prop :=
  len = 0 ∨ ∃ b off, a = some ⟨b, off, none⟩ ∧ b < w.heap.size ∧ ∀ i, i < len → w.cell? ⟨b, off + i, none⟩ = some (.int k (f i))

theorem Sl.below {k : IntKind} {w w' : World} {a : Option Addr} {len : Nat} {f : Nat → Int} (h : Sl k w a len f) {B : Nat} (hB : Below B w w') (hs : w.heap.size ≤ B) : Sl k w' a len f := by
  rcases h with h | ⟨b, off, rfl, hb, hc⟩
  · exact .inl h
  · refine .inr ⟨b, off, rfl, Nat.lt_of_lt_of_le hb hB.size, fun i hi => ?_⟩
    rw [hB.cell (p := ⟨b, off + i, none⟩) (Nat.lt_of_lt_of_le hb hs)]
    exact hc i hi

theorem rowIs_below {w w' : World} {b : Nat} {t : TypeId} {n : Nat} {f : Nat → Value} (h : w.rowIs b t n f) {B : Nat} (hB : Below B w w') (hb : b < B) : w'.rowIs b t n f := h.of_block (hB.block b hb)

theorem below_drewN {B : Nat} {w w' : World} (h : Below B w w') (n : Nat) : Below B w (w'.drewN n) := ⟨h.os, h.tape, h.output, h.size, h.block⟩

theorem Try.info3 : (Try.prog.info? 3).map (fun i => (i.zero, i.size, i.bytes)) = some (some (.int .i64 0), 1, 8) := by kernel_rfl
theorem Try.info22 : (Try.prog.info? 22).map (fun i => (i.zero, i.size, i.bytes)) = some (some (.int .u64 0), 1, 8) := by kernel_rfl
theorem Try.info23 : (Try.prog.info? 23).map (fun i => (i.zero, i.size, i.bytes)) = some (some (.int .u32 0), 1, 4) := by kernel_rfl
theorem Try.info4 : (Try.prog.info? 4).map (fun i => (i.zero, i.size, i.bytes)) = some (some (.bool false), 1, 1) := by kernel_rfl



/-- A slice of bools that reads as f 0 .. f (len - 1). -/
def SlB (w : World) (a : Option Addr) (len : Nat) (f : Nat → Bool) : Prop :=
  len = 0 ∨ ∃ b off, a = some ⟨b, off, none⟩ ∧ b < w.heap.size ∧ ∀ i, i < len → w.cell? ⟨b, off + i, none⟩ = some (.bool (f i))

theorem SlB.below {w w' : World} {a : Option Addr} {len : Nat} {f : Nat → Bool} (h : SlB w a len f) {B : Nat} (hB : Below B w w') (hs : w.heap.size ≤ B) : SlB w' a len f := by
  rcases h with h | ⟨b, off, rfl, hb, hc⟩
  · exact .inl h
  · refine .inr ⟨b, off, rfl, Nat.lt_of_lt_of_le hb hB.size, fun i hi => ?_⟩
    rw [hB.cell (p := ⟨b, off + i, none⟩) (Nat.lt_of_lt_of_le hb hs)]
    exact hc i hi

set_option maxHeartbeats 400000 in
theorem cloneInts_any (a : Option Addr) (len cap : Nat) (f : Nat → Int) (w : World) (hs : Sl .i64 w a len f) (hlen : len ≤ 1048576) :
    Calls Try.prog 26 #[.slice a len cap] w fun e w' => ∃ a' cap', e = .returned (.slice a' len cap') ∧ Sl .i64 w' a' len f ∧ Below w.heap.size w w' := by
  have hnil : ∀ (w : World) (a : Option Addr) (n c n' c' : Nat), (binOp .eql 56 (.slice a n c) (.slice none n' c')).run Try.prog w = .ok (.bool a.isNone) w := fun w a n c n' c' => Lib.run_eql_slice_nil w _ _ a n c n' c' Try.underlying56
  have hmk := run_make_row' (P := Try.prog) 56 3 (.int .i64 0) 8 Try.underlying56 Try.info3 rfl .i64 .i64 len (by omega) (by omega)
  cases a with
  | none =>
    have h0 : len = 0 := by
      rcases hs with h | ⟨b, off, h, _⟩
      · exact h
      · cases h
    subst h0
    go_enter Try.func26, Try.ntmps26
    go_wp2
    go_ret
    exact ⟨_, _, rfl, .inl rfl, Below.refl _ _⟩
  | some x =>
    go_enter Try.func26, Try.ntmps26
    go_wp2
    have hrow := World.rowIs_made w (.int .i64 0) len 3
    go_loopw [4] (fun i wr => ∃ k : Nat, k ≤ len ∧ i = .int .i64 k ∧ wr.rowIs w.heap.size 3 len (fun j => if j < k then .int .i64 (f j) else .int .i64 0) ∧ Below w.heap.size w wr) (fun i _ => len - (intOf i).toNat)
    case atStart => exact ⟨0, Nat.zero_le _, rfl, hrow.congr (fun i _ => by simp), (Below.refl _ _).alloc (Nat.le_refl _) _⟩
    case round =>
      obtain ⟨k, hk, rfl, hrk, hbk⟩ := hrel
      by_cases hlt : k < len
      · rcases hs with h | ⟨b, off, hx, hb, hc⟩
        · omega
        · obtain rfl : x = ⟨b, off, none⟩ := by simpa using hx
          have c1 : wr.cell? ⟨b, off + k, none⟩ = some (.int .i64 (f k)) := by rw [hbk.cell (p := ⟨b, off + k, none⟩) hb]; exact hc k hlt
          have c2 := hrk.cell hlt
          have f2 := hrk.frozen k
          have hst := (hrk.set k (.int .i64 (f k))).congr (g := fun j => if j < k + 1 then .int .i64 (f j) else .int .i64 0) (fun j _ => by
            by_cases e : j = k
            · subst e; simp
            · by_cases e2 : j < k
              · simp [e, e2, show j < k + 1 by omega]
              · simp [e, e2, show ¬ j < k + 1 by omega])
          go_wp2
          go_roundw
          case rel => exact ⟨k + 1, by omega, by go_num, hst, hbk.setCell (Nat.le_refl _) _⟩
          case measure => simp [intOf]; omega
      · obtain rfl : k = len := by omega
        go_wp2
        go_ret
        refine ⟨_, _, rfl, .inr ⟨w.heap.size, 0, rfl, hrk.lt, fun i hi => ?_⟩, hbk⟩
        rw [Nat.zero_add, hrk.cell hi, if_pos hi]

set_option maxHeartbeats 400000 in
theorem cloneTimes_any (a : Option Addr) (len cap : Nat) (f : Nat → Int) (w : World) (hs : Sl .u64 w a len f) (hlen : len ≤ 1048576) :
    Calls Try.prog 13 #[.slice a len cap] w fun e w' => ∃ a' cap', e = .returned (.slice a' len cap') ∧ Sl .u64 w' a' len f ∧ Below w.heap.size w w' := by
  have hnil : ∀ (w : World) (a : Option Addr) (n c n' c' : Nat), (binOp .eql 30 (.slice a n c) (.slice none n' c')).run Try.prog w = .ok (.bool a.isNone) w := fun w a n c n' c' => Lib.run_eql_slice_nil w _ _ a n c n' c' Try.underlying30
  have hmk := run_make_row' (P := Try.prog) 30 22 (.int .u64 0) 8 Try.underlying30 Try.info22 rfl .i64 .i64 len (by omega) (by omega)
  cases a with
  | none =>
    have h0 : len = 0 := by
      rcases hs with h | ⟨b, off, h, _⟩
      · exact h
      · cases h
    subst h0
    go_enter Try.func13, Try.ntmps13
    go_wp2
    go_ret
    exact ⟨_, _, rfl, .inl rfl, Below.refl _ _⟩
  | some x =>
    go_enter Try.func13, Try.ntmps13
    go_wp2
    have hrow := World.rowIs_made w (.int .u64 0) len 22
    go_loopw [4] (fun i wr => ∃ k : Nat, k ≤ len ∧ i = .int .i64 k ∧ wr.rowIs w.heap.size 22 len (fun j => if j < k then .int .u64 (f j) else .int .u64 0) ∧ Below w.heap.size w wr) (fun i _ => len - (intOf i).toNat)
    case atStart => exact ⟨0, Nat.zero_le _, rfl, hrow.congr (fun i _ => by simp), (Below.refl _ _).alloc (Nat.le_refl _) _⟩
    case round =>
      obtain ⟨k, hk, rfl, hrk, hbk⟩ := hrel
      by_cases hlt : k < len
      · rcases hs with h | ⟨b, off, hx, hb, hc⟩
        · omega
        · obtain rfl : x = ⟨b, off, none⟩ := by simpa using hx
          have c1 : wr.cell? ⟨b, off + k, none⟩ = some (.int .u64 (f k)) := by rw [hbk.cell (p := ⟨b, off + k, none⟩) hb]; exact hc k hlt
          have c2 := hrk.cell hlt
          have f2 := hrk.frozen k
          have hst := (hrk.set k (.int .u64 (f k))).congr (g := fun j => if j < k + 1 then .int .u64 (f j) else .int .u64 0) (fun j _ => by
            by_cases e : j = k
            · subst e; simp
            · by_cases e2 : j < k
              · simp [e, e2, show j < k + 1 by omega]
              · simp [e, e2, show ¬ j < k + 1 by omega])
          go_wp2
          go_roundw
          case rel => exact ⟨k + 1, by omega, by go_num, hst, hbk.setCell (Nat.le_refl _) _⟩
          case measure => simp [intOf]; omega
      · obtain rfl : k = len := by omega
        go_wp2
        go_ret
        refine ⟨_, _, rfl, .inr ⟨w.heap.size, 0, rfl, hrk.lt, fun i hi => ?_⟩, hbk⟩
        rw [Nat.zero_add, hrk.cell hi, if_pos hi]

set_option maxHeartbeats 400000 in
theorem cloneIDs_any (a : Option Addr) (len cap : Nat) (f : Nat → Int) (w : World) (hs : Sl .u32 w a len f) (hlen : len ≤ 1048576) :
    Calls Try.prog 21 #[.slice a len cap] w fun e w' => ∃ a' cap', e = .returned (.slice a' len cap') ∧ Sl .u32 w' a' len f ∧ Below w.heap.size w w' := by
  have hnil : ∀ (w : World) (a : Option Addr) (n c n' c' : Nat), (binOp .eql 47 (.slice a n c) (.slice none n' c')).run Try.prog w = .ok (.bool a.isNone) w := fun w a n c n' c' => Lib.run_eql_slice_nil w _ _ a n c n' c' Try.underlying47
  have hmk := run_make_row' (P := Try.prog) 47 23 (.int .u32 0) 4 Try.underlying47 Try.info23 rfl .i64 .i64 len (by omega) (by omega)
  cases a with
  | none =>
    have h0 : len = 0 := by
      rcases hs with h | ⟨b, off, h, _⟩
      · exact h
      · cases h
    subst h0
    go_enter Try.func21, Try.ntmps21
    go_wp2
    go_ret
    exact ⟨_, _, rfl, .inl rfl, Below.refl _ _⟩
  | some x =>
    go_enter Try.func21, Try.ntmps21
    go_wp2
    have hrow := World.rowIs_made w (.int .u32 0) len 23
    go_loopw [4] (fun i wr => ∃ k : Nat, k ≤ len ∧ i = .int .i64 k ∧ wr.rowIs w.heap.size 23 len (fun j => if j < k then .int .u32 (f j) else .int .u32 0) ∧ Below w.heap.size w wr) (fun i _ => len - (intOf i).toNat)
    case atStart => exact ⟨0, Nat.zero_le _, rfl, hrow.congr (fun i _ => by simp), (Below.refl _ _).alloc (Nat.le_refl _) _⟩
    case round =>
      obtain ⟨k, hk, rfl, hrk, hbk⟩ := hrel
      by_cases hlt : k < len
      · rcases hs with h | ⟨b, off, hx, hb, hc⟩
        · omega
        · obtain rfl : x = ⟨b, off, none⟩ := by simpa using hx
          have c1 : wr.cell? ⟨b, off + k, none⟩ = some (.int .u32 (f k)) := by rw [hbk.cell (p := ⟨b, off + k, none⟩) hb]; exact hc k hlt
          have c2 := hrk.cell hlt
          have f2 := hrk.frozen k
          have hst := (hrk.set k (.int .u32 (f k))).congr (g := fun j => if j < k + 1 then .int .u32 (f j) else .int .u32 0) (fun j _ => by
            by_cases e : j = k
            · subst e; simp
            · by_cases e2 : j < k
              · simp [e, e2, show j < k + 1 by omega]
              · simp [e, e2, show ¬ j < k + 1 by omega])
          go_wp2
          go_roundw
          case rel => exact ⟨k + 1, by omega, by go_num, hst, hbk.setCell (Nat.le_refl _) _⟩
          case measure => simp [intOf]; omega
      · obtain rfl : k = len := by omega
        go_wp2
        go_ret
        refine ⟨_, _, rfl, .inr ⟨w.heap.size, 0, rfl, hrk.lt, fun i hi => ?_⟩, hbk⟩
        rw [Nat.zero_add, hrk.cell hi, if_pos hi]

set_option maxHeartbeats 400000 in
theorem cloneU64_any (a : Option Addr) (len cap : Nat) (f : Nat → Int) (w : World) (hs : Sl .u64 w a len f) (hlen : len ≤ 1048576) :
    Calls Try.prog 29 #[.slice a len cap] w fun e w' => ∃ a' cap', e = .returned (.slice a' len cap') ∧ Sl .u64 w' a' len f ∧ Below w.heap.size w w' := by
  have hnil : ∀ (w : World) (a : Option Addr) (n c n' c' : Nat), (binOp .eql 30 (.slice a n c) (.slice none n' c')).run Try.prog w = .ok (.bool a.isNone) w := fun w a n c n' c' => Lib.run_eql_slice_nil w _ _ a n c n' c' Try.underlying30
  have hmk := run_make_row' (P := Try.prog) 30 22 (.int .u64 0) 8 Try.underlying30 Try.info22 rfl .i64 .i64 len (by omega) (by omega)
  cases a with
  | none =>
    have h0 : len = 0 := by
      rcases hs with h | ⟨b, off, h, _⟩
      · exact h
      · cases h
    subst h0
    go_enter Try.func29, Try.ntmps29
    go_wp2
    go_ret
    exact ⟨_, _, rfl, .inl rfl, Below.refl _ _⟩
  | some x =>
    go_enter Try.func29, Try.ntmps29
    go_wp2
    have hrow := World.rowIs_made w (.int .u64 0) len 22
    go_loopw [4] (fun i wr => ∃ k : Nat, k ≤ len ∧ i = .int .i64 k ∧ wr.rowIs w.heap.size 22 len (fun j => if j < k then .int .u64 (f j) else .int .u64 0) ∧ Below w.heap.size w wr) (fun i _ => len - (intOf i).toNat)
    case atStart => exact ⟨0, Nat.zero_le _, rfl, hrow.congr (fun i _ => by simp), (Below.refl _ _).alloc (Nat.le_refl _) _⟩
    case round =>
      obtain ⟨k, hk, rfl, hrk, hbk⟩ := hrel
      by_cases hlt : k < len
      · rcases hs with h | ⟨b, off, hx, hb, hc⟩
        · omega
        · obtain rfl : x = ⟨b, off, none⟩ := by simpa using hx
          have c1 : wr.cell? ⟨b, off + k, none⟩ = some (.int .u64 (f k)) := by rw [hbk.cell (p := ⟨b, off + k, none⟩) hb]; exact hc k hlt
          have c2 := hrk.cell hlt
          have f2 := hrk.frozen k
          have hst := (hrk.set k (.int .u64 (f k))).congr (g := fun j => if j < k + 1 then .int .u64 (f j) else .int .u64 0) (fun j _ => by
            by_cases e : j = k
            · subst e; simp
            · by_cases e2 : j < k
              · simp [e, e2, show j < k + 1 by omega]
              · simp [e, e2, show ¬ j < k + 1 by omega])
          go_wp2
          go_roundw
          case rel => exact ⟨k + 1, by omega, by go_num, hst, hbk.setCell (Nat.le_refl _) _⟩
          case measure => simp [intOf]; omega
      · obtain rfl : k = len := by omega
        go_wp2
        go_ret
        refine ⟨_, _, rfl, .inr ⟨w.heap.size, 0, rfl, hrk.lt, fun i hi => ?_⟩, hbk⟩
        rw [Nat.zero_add, hrk.cell hi, if_pos hi]

set_option maxHeartbeats 400000 in
theorem cloneU32_any (a : Option Addr) (len cap : Nat) (f : Nat → Int) (w : World) (hs : Sl .u32 w a len f) (hlen : len ≤ 1048576) :
    Calls Try.prog 30 #[.slice a len cap] w fun e w' => ∃ a' cap', e = .returned (.slice a' len cap') ∧ Sl .u32 w' a' len f ∧ Below w.heap.size w w' := by
  have hnil : ∀ (w : World) (a : Option Addr) (n c n' c' : Nat), (binOp .eql 47 (.slice a n c) (.slice none n' c')).run Try.prog w = .ok (.bool a.isNone) w := fun w a n c n' c' => Lib.run_eql_slice_nil w _ _ a n c n' c' Try.underlying47
  have hmk := run_make_row' (P := Try.prog) 47 23 (.int .u32 0) 4 Try.underlying47 Try.info23 rfl .i64 .i64 len (by omega) (by omega)
  cases a with
  | none =>
    have h0 : len = 0 := by
      rcases hs with h | ⟨b, off, h, _⟩
      · exact h
      · cases h
    subst h0
    go_enter Try.func30, Try.ntmps30
    go_wp2
    go_ret
    exact ⟨_, _, rfl, .inl rfl, Below.refl _ _⟩
  | some x =>
    go_enter Try.func30, Try.ntmps30
    go_wp2
    have hrow := World.rowIs_made w (.int .u32 0) len 23
    go_loopw [4] (fun i wr => ∃ k : Nat, k ≤ len ∧ i = .int .i64 k ∧ wr.rowIs w.heap.size 23 len (fun j => if j < k then .int .u32 (f j) else .int .u32 0) ∧ Below w.heap.size w wr) (fun i _ => len - (intOf i).toNat)
    case atStart => exact ⟨0, Nat.zero_le _, rfl, hrow.congr (fun i _ => by simp), (Below.refl _ _).alloc (Nat.le_refl _) _⟩
    case round =>
      obtain ⟨k, hk, rfl, hrk, hbk⟩ := hrel
      by_cases hlt : k < len
      · rcases hs with h | ⟨b, off, hx, hb, hc⟩
        · omega
        · obtain rfl : x = ⟨b, off, none⟩ := by simpa using hx
          have c1 : wr.cell? ⟨b, off + k, none⟩ = some (.int .u32 (f k)) := by rw [hbk.cell (p := ⟨b, off + k, none⟩) hb]; exact hc k hlt
          have c2 := hrk.cell hlt
          have f2 := hrk.frozen k
          have hst := (hrk.set k (.int .u32 (f k))).congr (g := fun j => if j < k + 1 then .int .u32 (f j) else .int .u32 0) (fun j _ => by
            by_cases e : j = k
            · subst e; simp
            · by_cases e2 : j < k
              · simp [e, e2, show j < k + 1 by omega]
              · simp [e, e2, show ¬ j < k + 1 by omega])
          go_wp2
          go_roundw
          case rel => exact ⟨k + 1, by omega, by go_num, hst, hbk.setCell (Nat.le_refl _) _⟩
          case measure => simp [intOf]; omega
      · obtain rfl : k = len := by omega
        go_wp2
        go_ret
        refine ⟨_, _, rfl, .inr ⟨w.heap.size, 0, rfl, hrk.lt, fun i hi => ?_⟩, hbk⟩
        rw [Nat.zero_add, hrk.cell hi, if_pos hi]

set_option maxHeartbeats 400000 in
theorem cloneBools_any (a : Option Addr) (len cap : Nat) (f : Nat → Bool) (w : World) (hs : SlB w a len f) (hlen : len ≤ 1048576) :
    Calls Try.prog 31 #[.slice a len cap] w fun e w' => ∃ a' cap', e = .returned (.slice a' len cap') ∧ SlB w' a' len f ∧ Below w.heap.size w w' := by
  have hnil : ∀ (w : World) (a : Option Addr) (n c n' c' : Nat), (binOp .eql 62 (.slice a n c) (.slice none n' c')).run Try.prog w = .ok (.bool a.isNone) w := fun w a n c n' c' => Lib.run_eql_slice_nil w _ _ a n c n' c' Try.underlying62
  have hmk := run_make_row' (P := Try.prog) 62 4 (.bool false) 1 Try.underlying62 Try.info4 rfl .i64 .i64 len (by omega) (by omega)
  cases a with
  | none =>
    have h0 : len = 0 := by
      rcases hs with h | ⟨b, off, h, _⟩
      · exact h
      · cases h
    subst h0
    go_enter Try.func31, Try.ntmps31
    go_wp2
    go_ret
    exact ⟨_, _, rfl, .inl rfl, Below.refl _ _⟩
  | some x =>
    go_enter Try.func31, Try.ntmps31
    go_wp2
    have hrow := World.rowIs_made w (.bool false) len 4
    go_loopw [4] (fun i wr => ∃ k : Nat, k ≤ len ∧ i = .int .i64 k ∧ wr.rowIs w.heap.size 4 len (fun j => if j < k then .bool (f j) else .bool false) ∧ Below w.heap.size w wr) (fun i _ => len - (intOf i).toNat)
    case atStart => exact ⟨0, Nat.zero_le _, rfl, hrow.congr (fun i _ => by simp), (Below.refl _ _).alloc (Nat.le_refl _) _⟩
    case round =>
      obtain ⟨k, hk, rfl, hrk, hbk⟩ := hrel
      by_cases hlt : k < len
      · rcases hs with h | ⟨b, off, hx, hb, hc⟩
        · omega
        · obtain rfl : x = ⟨b, off, none⟩ := by simpa using hx
          have c1 : wr.cell? ⟨b, off + k, none⟩ = some (.bool (f k)) := by rw [hbk.cell (p := ⟨b, off + k, none⟩) hb]; exact hc k hlt
          have c2 := hrk.cell hlt
          have f2 := hrk.frozen k
          have hst := (hrk.set k (.bool (f k))).congr (g := fun j => if j < k + 1 then .bool (f j) else .bool false) (fun j _ => by
            by_cases e : j = k
            · subst e; simp
            · by_cases e2 : j < k
              · simp [e, e2, show j < k + 1 by omega]
              · simp [e, e2, show ¬ j < k + 1 by omega])
          go_wp2
          go_roundw
          case rel => exact ⟨k + 1, by omega, by go_num, hst, hbk.setCell (Nat.le_refl _) _⟩
          case measure => simp [intOf]; omega
      · obtain rfl : k = len := by omega
        go_wp2
        go_ret
        refine ⟨_, _, rfl, .inr ⟨w.heap.size, 0, rfl, hrk.lt, fun i hi => ?_⟩, hbk⟩
        rw [Nat.zero_add, hrk.cell hi, if_pos hi]

end Go.Proofs.Qxb6003391a
