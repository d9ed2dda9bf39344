import Derived.Test.Qxb6003391aBase
import Derived.OwnWalk
import Derived.Deep.Light
import Derived.Deep.LoopGhost
namespace Go.Proofs.Qxb6003391a.Pas
open Go.ChangeShapes Go.WideShapes Go.ChangeAt Go.RowKit

theorem Try.info77 : (Try.prog.info? 77).map (fun i => (i.zero, i.size, i.bytes)) = some (some (.agg #[.int .u64 0, .int .u32 0, .string ByteArray.empty]), 3, 32) := by kernel_rfl
theorem Try.info80 : (Try.prog.info? 80).map (fun i => (i.zero, i.size, i.bytes)) = some (some (.agg #[.int .u8 0, .int .u64 0, .int .u32 0, .string ByteArray.empty]), 4, 40) := by kernel_rfl

/-- Cell x of a row of entries behind k of them. -/
def enV (f : Nat → Int) (k x : Nat) : Value :=
  if x % 3 = 0 then .int .u64 (if x / 3 < k then f (x / 3) else 0) else if x % 3 = 1 then .int .u32 (if x / 3 < k then 1 else 0) else .string ByteArray.empty
/-- Cell x of a row of outstandings behind k of them. -/
def ouV (f : Nat → Int) (k x : Nat) : Value :=
  if x % 4 = 0 then .int .u8 (if x / 4 < k then 5 else 0) else if x % 4 = 1 then .int .u64 (if x / 4 < k then f (x / 4) else 0) else if x % 4 = 2 then .int .u32 (if x / 4 < k then 2 else 0) else .string ByteArray.empty

theorem run_make_en (n : Nat) (h : n ≤ 65536) (w : World) :
    (Instr.makeSlice 34 (.int .i64 (n : Int)) (.int .i64 (n : Int))).run Try.prog w = .ok (.slice (some ⟨w.heap.size, 0, none⟩) n n) (w.alloc (.cells (madeCells #[.int .u64 0, .int .u32 0, .string ByteArray.empty] (n * 3)) 77)) := by
  obtain ⟨i, hi, hz, hs, hb⟩ := info_parts Try.info77
  have hr := run_make (P := Try.prog) w 34 77 i _ Try.underlying34 hi hz .i64 .i64 (n : Int) (n : Int) (by omega) (Int.le_refl _) (by rw [hb]; omega) (by omega)
  simp only [Int.toNat_natCast, hs] at hr
  exact hr
theorem run_make_ou (n : Nat) (h : n ≤ 65536) (w : World) :
    (Instr.makeSlice 36 (.int .i64 (n : Int)) (.int .i64 (n : Int))).run Try.prog w = .ok (.slice (some ⟨w.heap.size, 0, none⟩) n n) (w.alloc (.cells (madeCells #[.int .u8 0, .int .u64 0, .int .u32 0, .string ByteArray.empty] (n * 4)) 80)) := by
  obtain ⟨i, hi, hz, hs, hb⟩ := info_parts Try.info80
  have hr := run_make (P := Try.prog) w 36 80 i _ Try.underlying36 hi hz .i64 .i64 (n : Int) (n : Int) (by omega) (Int.le_refl _) (by rw [hb]; omega) (by omega)
  simp only [Int.toNat_natCast, hs] at hr
  exact hr

theorem en_made (w : World) (f : Nat → Int) (n : Nat) : (w.alloc (.cells (madeCells #[.int .u64 0, .int .u32 0, .string ByteArray.empty] (n * 3)) 77)).rowIs w.heap.size 77 (n * 3) (enV f 0) := by
  refine ⟨_, Go.Deep.blk_alloc_new _ _, by rw [size_madeCells], fun i hi => ?_⟩
  have h3 : i % 3 = 0 ∨ i % 3 = 1 ∨ i % 3 = 2 := by omega
  rcases h3 with e | e | e <;> simp [madeCells, hi, e, enV]
theorem ou_made (w : World) (f : Nat → Int) (n : Nat) : (w.alloc (.cells (madeCells #[.int .u8 0, .int .u64 0, .int .u32 0, .string ByteArray.empty] (n * 4)) 80)).rowIs w.heap.size 80 (n * 4) (ouV f 0) := by
  refine ⟨_, Go.Deep.blk_alloc_new _ _, by rw [size_madeCells], fun i hi => ?_⟩
  have h3 : i % 4 = 0 ∨ i % 4 = 1 ∨ i % 4 = 2 ∨ i % 4 = 3 := by omega
  rcases h3 with e | e | e | e <;> simp [madeCells, hi, e, ouV]

theorem en_step {f : Nat → Int} {w : World} {b n k : Nat} (h : w.rowIs b 77 n (enV f k)) :
    (((w.setCell ⟨b, k * 3, none⟩ (.int .u64 (f k))).setCell ⟨b, k * 3 + 1, none⟩ (.int .u32 1)).setCell ⟨b, k * 3 + 2, none⟩ (.string ByteArray.empty)).rowIs b 77 n (enV f (k + 1)) := by
  refine (((h.set (k * 3) _).set (k * 3 + 1) _).set (k * 3 + 2) _).congr (fun x _ => ?_)
  unfold enV
  by_cases e2 : x = k * 3 + 2
  · subst e2; rw [if_pos rfl, if_neg (by omega), if_neg (by omega)]
  rw [if_neg e2]
  by_cases e1 : x = k * 3 + 1
  · subst e1; rw [if_pos rfl, if_neg (by omega), if_pos (by omega), if_pos (by omega)]
  rw [if_neg e1]
  by_cases e0 : x = k * 3
  · subst e0; rw [if_pos rfl, if_pos (by omega), if_pos (by omega), show k * 3 / 3 = k by omega]
  rw [if_neg e0]
  have hiff : x / 3 < k ↔ x / 3 < k + 1 := by omega
  simp only [hiff]
theorem ou_step {f : Nat → Int} {w : World} {b n k : Nat} (h : w.rowIs b 80 n (ouV f k)) :
    ((((w.setCell ⟨b, k * 4, none⟩ (.int .u8 5)).setCell ⟨b, k * 4 + 1, none⟩ (.int .u64 (f k))).setCell ⟨b, k * 4 + 2, none⟩ (.int .u32 2)).setCell ⟨b, k * 4 + 3, none⟩ (.string ByteArray.empty)).rowIs b 80 n (ouV f (k + 1)) := by
  refine ((((h.set (k * 4) _).set (k * 4 + 1) _).set (k * 4 + 2) _).set (k * 4 + 3) _).congr (fun x _ => ?_)
  unfold ouV
  by_cases e3 : x = k * 4 + 3
  · subst e3; rw [if_pos rfl, if_neg (by omega), if_neg (by omega), if_neg (by omega)]
  rw [if_neg e3]
  by_cases e2 : x = k * 4 + 2
  · subst e2; rw [if_pos rfl, if_neg (by omega), if_neg (by omega), if_pos (by omega), if_pos (by omega)]
  rw [if_neg e2]
  by_cases e1 : x = k * 4 + 1
  · subst e1; rw [if_pos rfl, if_neg (by omega), if_pos (by omega), if_pos (by omega), show (k * 4 + 1) / 4 = k by omega]
  rw [if_neg e1]
  by_cases e0 : x = k * 4
  · subst e0; rw [if_pos rfl, if_pos (by omega), if_pos (by omega)]
  rw [if_neg e0]
  have hiff : x / 4 < k ↔ x / 4 < k + 1 := by omega
  simp only [hiff]

/-- Entries that bear the times f 0 .. f (len - 1). -/
def En (w : World) (a : Option Addr) (len : Nat) (f : Nat → Int) : Prop := len = 0 ∨ ∃ b, a = some ⟨b, 0, none⟩ ∧ w.rowIs b 77 (len * 3) (enV f len)
def Ou (w : World) (a : Option Addr) (len : Nat) (f : Nat → Int) : Prop := len = 0 ∨ ∃ b, a = some ⟨b, 0, none⟩ ∧ w.rowIs b 80 (len * 4) (ouV f len)

theorem En.below {w w' : World} {a : Option Addr} {len : Nat} {f : Nat → Int} (h : En w a len f) {B : Nat} (hB : Below B w w') (hs : w.heap.size ≤ B) : En w' a len f := by
  rcases h with h | ⟨b, rfl, hr⟩
  · exact .inl h
  · exact .inr ⟨b, rfl, rowIs_below hr hB (Nat.lt_of_lt_of_le hr.lt hs)⟩
theorem Ou.below {w w' : World} {a : Option Addr} {len : Nat} {f : Nat → Int} (h : Ou w a len f) {B : Nat} (hB : Below B w w') (hs : w.heap.size ≤ B) : Ou w' a len f := by
  rcases h with h | ⟨b, rfl, hr⟩
  · exact .inl h
  · exact .inr ⟨b, rfl, rowIs_below hr hB (Nat.lt_of_lt_of_le hr.lt hs)⟩

set_option maxHeartbeats 800000 in
theorem entries_any (a : Option Addr) (len cap : Nat) (f : Nat → Int) (w : World) (hs : Sl .u64 w a len f) (hlen : len ≤ 65536) :
    Calls Try.prog 14 #[.slice a len cap] w fun e w' => ∃ a' cap', e = .returned (.slice a' len cap') ∧ En w' a' len f ∧ Below w.heap.size w w' := by
  have hnil : ∀ (w : World) (a : Option Addr) (n c n' c' : Nat), (binOp .eql 30 (.slice a n c) (.slice none n' c')).run Try.prog w = .ok (.bool a.isNone) w := fun w a n c n' c' => Lib.run_eql_slice_nil w _ _ a n c n' c' Try.underlying30
  have hmk := run_make_en len hlen
  cases a with
  | none =>
    have h0 : len = 0 := by
      rcases hs with h | ⟨b, off, h, _⟩
      · exact h
      · cases h
    subst h0
    go_enter Try.func14, Try.ntmps14
    go_wp2
    go_ret
    exact ⟨_, _, rfl, .inl rfl, Below.refl _ _⟩
  | some x =>
    have hrow := en_made w f len
    go_enter Try.func14, Try.ntmps14
    go_wp2
    go_loopw [4] (fun i wr => ∃ k : Nat, k ≤ len ∧ i = .int .i64 k ∧ wr.rowIs w.heap.size 77 (len * 3) (enV f k) ∧ Below w.heap.size w wr) (fun i _ => len - (intOf i).toNat)
    case atStart => exact ⟨0, Nat.zero_le _, rfl, hrow, (Below.refl _ _).alloc (Nat.le_refl _) _⟩
    case round =>
      obtain ⟨k, hk, rfl, hrk, hbk⟩ := hrel
      by_cases hlt : k < len
      · rcases hs with h | ⟨b, off, hx, hb, hc⟩
        · omega
        · obtain rfl : x = ⟨b, off, none⟩ := by simpa using hx
          have c1 : wr.cell? ⟨b, off + k, none⟩ = some (.int .u64 (f k)) := by rw [hbk.cell (p := ⟨b, off + k, none⟩) hb]; exact hc k hlt
          have d0 := hrk.cell (i := k * 3) (by omega)
          have d1 := hrk.cell (i := k * 3 + 1) (by omega)
          have d2 := hrk.cell (i := k * 3 + 2) (by omega)
          have f0 := hrk.frozen (k * 3)
          have f1 := hrk.frozen (k * 3 + 1)
          have f2 := hrk.frozen (k * 3 + 2)
          have hst := en_step hrk
          go_wp2
          go_roundw
          case rel => exact ⟨k + 1, hlt, by go_num, hst, ((hbk.setCell (p := ⟨w.heap.size, k * 3, none⟩) (Nat.le_refl _) _).setCell (p := ⟨w.heap.size, k * 3 + 1, none⟩) (Nat.le_refl _) _).setCell (p := ⟨w.heap.size, k * 3 + 2, none⟩) (Nat.le_refl _) _⟩
          case measure => simp [intOf]; omega
      · obtain rfl : len = k := by omega
        go_wp2
        go_ret
        exact ⟨_, _, rfl, .inr ⟨_, rfl, hrk⟩, hbk⟩

/-- The place that round i reads. -/
def rv (rev : Bool) (len i : Nat) : Nat := if rev then len - 1 - i else i

set_option maxHeartbeats 1600000 in
theorem out_any (a : Option Addr) (len cap : Nat) (f : Nat → Int) (rev : Bool) (w : World) (hs : Sl .u64 w a len f) (hlen : len ≤ 65536) :
    Calls Try.prog 15 #[.slice a len cap, .bool rev] w fun e w' => ∃ a' cap', e = .returned (.slice a' len cap') ∧ Ou w' a' len (fun i => f (rv rev len i)) ∧ Below w.heap.size w w' := by
  have hnil : ∀ (w : World) (a : Option Addr) (n c n' c' : Nat), (binOp .eql 30 (.slice a n c) (.slice none n' c')).run Try.prog w = .ok (.bool a.isNone) w := fun w a n c n' c' => Lib.run_eql_slice_nil w _ _ a n c n' c' Try.underlying30
  have hmk := run_make_ou len hlen
  cases a with
  | none =>
    have h0 : len = 0 := by
      rcases hs with h | ⟨b, off, h, _⟩
      · exact h
      · cases h
    subst h0
    go_enter Try.func15, Try.ntmps15
    go_wp2
    go_ret
    exact ⟨_, _, rfl, .inl rfl, Below.refl _ _⟩
  | some x =>
    have hrow := ou_made w (fun i => f (rv rev len i)) len
    go_enter Try.func15, Try.ntmps15
    go_wp2
    go_loopw [6] (fun i wr => ∃ k : Nat, k ≤ len ∧ i = .int .i64 k ∧ wr.rowIs w.heap.size 80 (len * 4) (ouV (fun i => f (rv rev len i)) k) ∧ Below w.heap.size w wr) (fun i _ => len - (intOf i).toNat)
    case atStart => exact ⟨0, Nat.zero_le _, rfl, hrow, (Below.refl _ _).alloc (Nat.le_refl _) _⟩
    case round =>
      obtain ⟨k, hk, rfl, hrk, hbk⟩ := hrel
      by_cases hlt : k < len
      · rcases hs with h | ⟨b, off, hx, hb, hc⟩
        · omega
        · obtain rfl : x = ⟨b, off, none⟩ := by simpa using hx
          have d0 := hrk.cell (i := k * 4) (by omega)
          have d1 := hrk.cell (i := k * 4 + 1) (by omega)
          have d2 := hrk.cell (i := k * 4 + 2) (by omega)
          have d3 := hrk.cell (i := k * 4 + 3) (by omega)
          have f0 := hrk.frozen (k * 4)
          have f1 := hrk.frozen (k * 4 + 1)
          have f2 := hrk.frozen (k * 4 + 2)
          have f3 := hrk.frozen (k * 4 + 3)
          have hst := ou_step hrk
          cases rev with
          | false =>
            have c1 : wr.cell? ⟨b, off + k, none⟩ = some (.int .u64 (f k)) := by rw [hbk.cell (p := ⟨b, off + k, none⟩) hb]; exact hc k hlt
            simp only [rv, Bool.false_eq_true, if_false] at hst
            go_wp2
            go_roundw
            case rel => exact ⟨k + 1, hlt, by go_num, by simp only [rv, Bool.false_eq_true, if_false]; exact hst, (((hbk.setCell (p := ⟨w.heap.size, k * 4, none⟩) (Nat.le_refl _) _).setCell (p := ⟨w.heap.size, k * 4 + 1, none⟩) (Nat.le_refl _) _).setCell (p := ⟨w.heap.size, k * 4 + 2, none⟩) (Nat.le_refl _) _).setCell (p := ⟨w.heap.size, k * 4 + 3, none⟩) (Nat.le_refl _) _⟩
            case measure => simp [intOf]; omega
          | true =>
            have c1 : wr.cell? ⟨b, off + (len - 1 - k), none⟩ = some (.int .u64 (f (len - 1 - k))) := by rw [hbk.cell (p := ⟨b, off + (len - 1 - k), none⟩) hb]; exact hc (len - 1 - k) (by omega)
            simp only [rv, if_true] at hst
            go_wp2
            go_roundw
            case rel => exact ⟨k + 1, hlt, by go_num, by simp only [rv, if_true]; exact hst, (((hbk.setCell (p := ⟨w.heap.size, k * 4, none⟩) (Nat.le_refl _) _).setCell (p := ⟨w.heap.size, k * 4 + 1, none⟩) (Nat.le_refl _) _).setCell (p := ⟨w.heap.size, k * 4 + 2, none⟩) (Nat.le_refl _) _).setCell (p := ⟨w.heap.size, k * 4 + 3, none⟩) (Nat.le_refl _) _⟩
            case measure => simp [intOf]; omega
      · obtain rfl : len = k := by omega
        go_wp2
        go_ret
        exact ⟨_, _, rfl, .inr ⟨_, rfl, hrk⟩, hbk⟩
end Go.Proofs.Qxb6003391a.Pas
