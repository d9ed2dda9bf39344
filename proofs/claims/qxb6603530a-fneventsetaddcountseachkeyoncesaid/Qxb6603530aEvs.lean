import Derived.Test.Qxb6603530aBase
import Derived.Laws.IdiomCopy
namespace Go.Proofs.Qxb6603530a
open Go.ChangeShapes Go.WideShapes Go.ChangeAt Go.RowKit

/-! ### A slice of events -/
def evCell (e : Ev) : Nat → Value
  | 0 => .string e.src
  | 1 => .string e.id
  | 2 => .string e.typ
  | 3 => .string e.subj
  | 4 => .string e.clu
  | _ => .int .u8 e.role
def SlE (w : World) (a : Option Addr) (n : Nat) (E : Nat → Ev) : Prop :=
  n = 0 ∨ ∃ b off, a = some ⟨b, off, none⟩ ∧ b < w.heap.size ∧ ∀ i, i < n → ∀ j, j < 6 → w.cell? ⟨b, off + i * 6 + j, none⟩ = some (evCell (E i) j)
theorem SlE.below {w w' : World} {a : Option Addr} {n : Nat} {E : Nat → Ev} (h : SlE w a n E) {B : Nat} (hB : Below B w w') (hs : ∀ b off, a = some ⟨b, off, none⟩ → b < B) : SlE w' a n E := by
  rcases h with h | ⟨b, off, rfl, hb, hc⟩
  · exact .inl h
  · refine .inr ⟨b, off, rfl, Nat.lt_of_lt_of_le hb hB.size, fun i hi j hj => ?_⟩
    rw [hB.cell (p := ⟨b, off + i * 6 + j, none⟩) (hs b off rfl)]
    exact hc i hi j hj

/-- The event's strings are of lengths that Go has. -/
def Fits (e : Ev) : Prop := e.src.size ≤ maxLen ∧ e.id.size ≤ maxLen ∧ e.typ.size ≤ maxLen ∧ e.subj.size ≤ maxLen ∧ e.clu.size ≤ maxLen
def Small (e : Ev) : Prop := e.src.size ≤ 1048576 ∧ e.id.size ≤ 1048576 ∧ e.typ.size ≤ 1048576 ∧ e.subj.size ≤ 1048576 ∧ e.clu.size ≤ 1048576

set_option maxRecDepth 100000 in
set_option maxHeartbeats 4000000 in
theorem bytes_any (a : Option Addr) (n cap : Nat) (E : Nat → Ev) (w : World) (hs : SlE w a n E) (hn : n ≤ maxLen) :
    Calls Try.prog 5 #[.slice a n cap] w fun e w' => ∃ r : Bool, e = .returned (.bool r) ∧ w = w' ∧ (r = true → ∀ i, i < n → Small (E i)) := by
  unfold maxLen at hn
  by_cases e0 : 1048576 < n
  · have e0' : (1048576 : Int) < (n : Int) := by omega
    go_enter Try.func5, Try.ntmps5
    go_wp2
    go_ret
    exact ⟨false, rfl, rfl, fun h => by cases h⟩
  · have e0' : (n : Int) ≤ 1048576 := by omega
    go_enter Try.func5, Try.ntmps5
    go_wp2
    go_loopw [3, 4] (fun z t wr => ∃ (q : Nat) (zz : Int), q ≤ n ∧ t = .int .i64 q ∧ z = .int .i64 zz ∧ 0 ≤ zz ∧ zz ≤ 1048576 ∧ wr = w ∧ Hid (∀ i, i < q → Small (E i))) (fun _ t _ => n - (intOf t).toNat)
    case atStart => exact ⟨0, (n : Int), Nat.zero_le _, rfl, by simp, by omega, by omega, rfl, fun i hi => absurd hi (by omega)⟩
    case round =>
      obtain ⟨q, zz, hq, rfl, rfl, z0, z1, hw, HN⟩ := hrel
      subst hw
      by_cases hlt : q < n
      · rcases hs with h | ⟨b, off, rfl, hb, hc⟩
        · omega
        · have c0 : wr.cell? ⟨b, off + q * 6, none⟩ = some (.string (E q).src) := hc q hlt 0 (by omega)
          have c1 : wr.cell? ⟨b, off + q * 6 + 1, none⟩ = some (.string (E q).id) := hc q hlt 1 (by omega)
          have c2 : wr.cell? ⟨b, off + q * 6 + 2, none⟩ = some (.string (E q).typ) := hc q hlt 2 (by omega)
          have c3 : wr.cell? ⟨b, off + q * 6 + 3, none⟩ = some (.string (E q).subj) := hc q hlt 3 (by omega)
          have c4 : wr.cell? ⟨b, off + q * 6 + 4, none⟩ = some (.string (E q).clu) := hc q hlt 4 (by omega)
          have HN' : Small (E q) → Hid (∀ i, i < q + 1 → Small (E i)) := fun hS i hi => by
            by_cases e : i = q
            · rw [e]; exact hS
            · exact HN.out i (by omega)
          clear hc
          by_cases t0 : 1048576 < (E q).src.size
          · have t0' : (1048576 : Int) < ((E q).src.size : Int) := by omega
            go_wp2
            go_ret
            exact ⟨false, rfl, rfl, fun h => by cases h⟩
          · have t0' : ((E q).src.size : Int) ≤ 1048576 := by omega
            by_cases u0 : 1048576 < (zz + ((E q).src.size : Int))
            · go_wp2
              go_ret
              exact ⟨false, rfl, rfl, fun h => by cases h⟩
            · have u0' : (zz + ((E q).src.size : Int)) ≤ 1048576 := by omega
              clear u0
              by_cases t1 : 1048576 < (E q).id.size
              · have t1' : (1048576 : Int) < ((E q).id.size : Int) := by omega
                go_wp2
                go_ret
                exact ⟨false, rfl, rfl, fun h => by cases h⟩
              · have t1' : ((E q).id.size : Int) ≤ 1048576 := by omega
                by_cases u1 : 1048576 < ((zz + ((E q).src.size : Int)) + ((E q).id.size : Int))
                · go_wp2
                  go_ret
                  exact ⟨false, rfl, rfl, fun h => by cases h⟩
                · have u1' : ((zz + ((E q).src.size : Int)) + ((E q).id.size : Int)) ≤ 1048576 := by omega
                  clear u1
                  by_cases t2 : 1048576 < (E q).typ.size
                  · have t2' : (1048576 : Int) < ((E q).typ.size : Int) := by omega
                    go_wp2
                    go_ret
                    exact ⟨false, rfl, rfl, fun h => by cases h⟩
                  · have t2' : ((E q).typ.size : Int) ≤ 1048576 := by omega
                    by_cases u2 : 1048576 < (((zz + ((E q).src.size : Int)) + ((E q).id.size : Int)) + ((E q).typ.size : Int))
                    · go_wp2
                      go_ret
                      exact ⟨false, rfl, rfl, fun h => by cases h⟩
                    · have u2' : (((zz + ((E q).src.size : Int)) + ((E q).id.size : Int)) + ((E q).typ.size : Int)) ≤ 1048576 := by omega
                      clear u2
                      by_cases t3 : 1048576 < (E q).subj.size
                      · have t3' : (1048576 : Int) < ((E q).subj.size : Int) := by omega
                        go_wp2
                        go_ret
                        exact ⟨false, rfl, rfl, fun h => by cases h⟩
                      · have t3' : ((E q).subj.size : Int) ≤ 1048576 := by omega
                        by_cases u3 : 1048576 < ((((zz + ((E q).src.size : Int)) + ((E q).id.size : Int)) + ((E q).typ.size : Int)) + ((E q).subj.size : Int))
                        · go_wp2
                          go_ret
                          exact ⟨false, rfl, rfl, fun h => by cases h⟩
                        · have u3' : ((((zz + ((E q).src.size : Int)) + ((E q).id.size : Int)) + ((E q).typ.size : Int)) + ((E q).subj.size : Int)) ≤ 1048576 := by omega
                          clear u3
                          by_cases t4 : 1048576 < (E q).clu.size
                          · have t4' : (1048576 : Int) < ((E q).clu.size : Int) := by omega
                            go_wp2
                            go_ret
                            exact ⟨false, rfl, rfl, fun h => by cases h⟩
                          · have t4' : ((E q).clu.size : Int) ≤ 1048576 := by omega
                            by_cases u4 : 1048576 < (((((zz + ((E q).src.size : Int)) + ((E q).id.size : Int)) + ((E q).typ.size : Int)) + ((E q).subj.size : Int)) + ((E q).clu.size : Int))
                            · go_wp2
                              go_ret
                              exact ⟨false, rfl, rfl, fun h => by cases h⟩
                            · have u4' : (((((zz + ((E q).src.size : Int)) + ((E q).id.size : Int)) + ((E q).typ.size : Int)) + ((E q).subj.size : Int)) + ((E q).clu.size : Int)) ≤ 1048576 := by omega
                              clear u4
                              have hS : Small (E q) := ⟨by omega, by omega, by omega, by omega, by omega⟩
                              go_wp2
                              go_roundw
                              case rel => exact ⟨q + 1, (((((zz + ((E q).src.size : Int)) + ((E q).id.size : Int)) + ((E q).typ.size : Int)) + ((E q).subj.size : Int)) + ((E q).clu.size : Int)), hlt, by go_num, by go_num, by omega, by omega, (by first | rfl | trivial), HN' hS⟩
                              case measure => simp [intOf]; omega

      · obtain rfl : q = n := by omega
        go_wp2
        go_ret
        exact ⟨true, rfl, rfl, fun _ => HN.out⟩

end Go.Proofs.Qxb6603530a
