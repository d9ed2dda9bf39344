import Derived.Test.Qxb6603530aEvs2
namespace Go.Proofs.Qxb6603530a
open Go.ChangeShapes Go.WideShapes Go.ChangeAt Go.RowKit

def hit (E : Nat → Ev) (i j : Nat) : Bool := (E j).src.toList == (E i).src.toList && (E j).id.toList == (E i).id.toList
def firstB (E : Nat → Ev) (i : Nat) : Bool := decide (∀ j, j < i → hit E i j = false)

set_option maxRecDepth 100000 in
set_option maxHeartbeats 4000000 in
theorem first_any (a : Option Addr) (n cap : Nat) (E : Nat → Ev) (w : World) (hs : SlE w a n E) (hn : n ≤ 4096) :
    Calls Try.prog 10 #[.slice a n cap] w fun e w' => e = .returned (.slice (some ⟨w.heap.size, 0, none⟩) n n) ∧ w'.rowIs w.heap.size 4 n (fun i => .bool (firstB E i)) ∧ Below w.heap.size w w' := by
  have hmk := run_make_row' (P := Try.prog) 60 4 (.bool false) 1 Try.underlying60 Try.info4 rfl .i64 .i64 n (by omega) (by omega)
  have hrow := World.rowIs_made w (.bool false) n 4
  go_enter Try.func10, Try.ntmps10
  go_wp2
  clear hmk
  go_loopw [4] (fun t wr => ∃ k : Nat, k ≤ n ∧ t = .int .i64 k ∧ wr.rowIs w.heap.size 4 n (fun j => if j < k then .bool (firstB E j) else .bool false) ∧ Below w.heap.size w wr) (fun t _ => n - (intOf t).toNat)
  case atStart => exact ⟨0, Nat.zero_le _, rfl, hrow.congr (fun i _ => by simp), (Below.refl _ _).alloc (Nat.le_refl _) _⟩
  case round =>
    clear hrow
    obtain ⟨k, hk, rfl, hrk, hbk⟩ := hrel
    by_cases hlt : k < n
    · rcases hs with h | ⟨b, off, rfl, hb, hc⟩
      · omega
      · have d2 := hrk.cell hlt
        have f2 := hrk.frozen k
        have hrow0 := (hrk.set k (.bool true)).congr (g := fun j => if j < k then .bool (firstB E j) else if j = k then .bool true else .bool false) (fun j _ => by
          by_cases e : j = k
          · subst e; simp
          · simp [e])
        have hB0 : Below w.heap.size w (wr.setCell ⟨w.heap.size, k, none⟩ (.bool true)) := hbk.setCell (Nat.le_refl _) _
        have C : Hid (∀ W, Below w.heap.size w W → ∀ i, i < n → ∀ j, j < 6 → W.cell? ⟨b, off + i * 6 + j, none⟩ = some (evCell (E i) j)) := fun W hW i hi j hj => by rw [hW.cell (p := ⟨b, off + i * 6 + j, none⟩) hb]; exact hc i hi j hj
        clear hc hrk hbk
        go_wp2
        clear d2 f2
        go_loopw [5] (fun t wr => ∃ j : Nat, j ≤ k ∧ t = .int .i64 j ∧ wr.rowIs w.heap.size 4 n (fun j => if j < k then .bool (firstB E j) else if j = k then .bool true else .bool false) ∧ Below w.heap.size w wr ∧ Hid (∀ j', j' < j → hit E k j' = false)) (fun t _ => k - (intOf t).toNat)
        case atStart => exact ⟨0, Nat.zero_le _, rfl, hrow0, hB0, fun j hj => absurd hj (by omega)⟩
        case round =>
          clear hrow0 hB0
          obtain ⟨j, hj, rfl, hr, hB, HN⟩ := hrel
          by_cases hjk : j < k
          · have c0 : wr.cell? ⟨b, off + j * 6, none⟩ = some (.string (E j).src) := C.out _ hB j (by omega) 0 (by omega)
            have c1 : wr.cell? ⟨b, off + j * 6 + 1, none⟩ = some (.string (E j).id) := C.out _ hB j (by omega) 1 (by omega)
            have d0 : wr.cell? ⟨b, off + k * 6, none⟩ = some (.string (E k).src) := C.out _ hB k hlt 0 (by omega)
            have d1 : wr.cell? ⟨b, off + k * 6 + 1, none⟩ = some (.string (E k).id) := C.out _ hB k hlt 1 (by omega)
            have d2 := hr.cell hlt
            have f2 := hr.frozen k
            have i1 : (j : Int) < (k : Int) := by omega
            have i2 : (k : Int) < (n : Int) := by omega
            have i3 : (j : Int) < (n : Int) := by omega
            have NO : Hid (hit E k j = false → ∀ j', j' < j + 1 → hit E k j' = false) := fun hh j' hj' => by
              by_cases e : j' = j
              · rw [e]; exact hh
              · exact HN.out j' (by omega)
            cases g1 : (E j).src.toList == (E k).src.toList with
            | false =>
              have hno := NO.out (by simp [hit, g1])
              clear d2 f2
              go_wp2
              go_quiet (fail)
              go_wp2
              go_roundw
              case rel => exact ⟨j + 1, hjk, by go_num, hr, below_drewN hB _, hno⟩
              case measure => simp [intOf]; omega
            | true =>
              cases g2 : (E j).id.toList == (E k).id.toList with
              | false =>
                have hno := NO.out (by simp [hit, g2])
                clear d2 f2
                go_wp2
                go_quiet (fail)
                go_wp2
                go_roundw
                case rel => exact ⟨j + 1, hjk, by go_num, hr, below_drewN hB _, hno⟩
                case measure => simp [intOf]; omega
              | true =>
                have hf : firstB E k = false := by
                  simp only [firstB, decide_eq_false_iff_not]
                  exact fun hall => by have := hall j hjk; simp [hit, g1, g2] at this
                have hset := (hr.set k (.bool false)).congr (g := fun j => if j < k + 1 then .bool (firstB E j) else .bool false) (fun j _ => by
                  by_cases e : j = k
                  · subst e; simp [hf]
                  · by_cases e2 : j < k
                    · simp [e, e2, show j < k + 1 by omega]
                    · simp [e, e2, show ¬ j < k + 1 by omega])
                go_wp2
                go_quiet (fail)
                go_wp2
                go_roundw
                case rel => exact ⟨k + 1, hlt, by go_num, hset, (below_drewN hB _).setCell (Nat.le_refl _) _⟩
                case measure => simp [intOf]; omega
          · obtain rfl : j = k := by omega
            have hf : firstB E j = true := by
              simp only [firstB, decide_eq_true_eq]
              exact HN.out
            have hset := hr.congr (g := fun q => if q < j + 1 then .bool (firstB E q) else .bool false) (fun q _ => by
              by_cases e : q = j
              · subst e; simp [hf]
              · by_cases e2 : q < j
                · simp [e2, show q < j + 1 by omega]
                · simp [e, e2, show ¬ q < j + 1 by omega])
            go_wp2
            go_roundw
            case rel => exact ⟨j + 1, hlt, by go_num, hset, hB⟩
            case measure => simp [intOf]; omega
    · obtain rfl : k = n := by omega
      go_wp2
      go_ret
      exact ⟨rfl, hrk.congr (fun i hi => by simp [hi]), hbk⟩
end Go.Proofs.Qxb6603530a
