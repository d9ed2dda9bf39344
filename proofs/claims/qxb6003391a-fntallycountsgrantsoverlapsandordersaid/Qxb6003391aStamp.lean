import Derived.Test.Qxb6003391aBase
namespace Go.Proofs.Qxb6003391a.Cmp
open Go.ChangeShapes Go.WideShapes Go.ChangeAt Go.RowKit

/-- Is the first stamp before the second? -/
def bef (t m t' m' : Nat) : Bool := decide (t < t' ∨ (t = t' ∧ m < m'))
theorem bef_lt {t m t' m' : Nat} (h : t < t') : bef t m t' m' = true := by simp [bef, h]
theorem bef_gt {t m t' m' : Nat} (h : t' < t) : bef t m t' m' = false := by simp [bef]; omega
theorem bef_eq {t m m' : Nat} : bef t m t m' = decide (m < m') := by simp [bef]
theorem ret_bool {a b : Bool} (h : a = b) : Ending.returned (.bool a) = .returned (.bool b) := by rw [h]

theorem before_any (t m t' m' : Nat) (w : World) :
    Calls Try.prog 42 #[.agg #[.int .u64 t, .int .u32 m], .agg #[.int .u64 t', .int .u32 m']] w fun e w' => e = .returned (.bool (bef t m t' m')) ∧ Below w.heap.size w w' := by
  have hB : ∀ (a b : Obj), Below w.heap.size w ((w.alloc a).alloc b) := fun a b => ((Below.refl _ _).alloc (Nat.le_refl _) _).alloc (by simp) _
  by_cases h1 : t < t'
  · have e := bef_lt (m := m) (m' := m') h1
    have HE : Hid (bef t m t' m' = true) := e
    clear e
    go_enter Try.func42, Try.ntmps42
    go_wp2
    go_ret
    exact ⟨by rw [HE.out]; exact ret_bool (by simp), hB _ _⟩
  by_cases h2 : t' < t
  · have e := bef_gt (m := m) (m' := m') h2
    have HE : Hid (bef t m t' m' = false) := e
    clear e
    go_enter Try.func42, Try.ntmps42
    go_wp2
    go_ret
    exact ⟨by rw [HE.out]; exact ret_bool (by simp), hB _ _⟩
  · obtain rfl : t = t' := by omega
    have e := bef_eq (t := t) (m := m) (m' := m')
    have HE : Hid (bef t m t m' = decide (m < m')) := e
    clear e
    go_enter Try.func42, Try.ntmps42
    go_wp2
    go_ret
    exact ⟨by rw [HE.out]; exact ret_bool (by simp), hB _ _⟩
end Go.Proofs.Qxb6003391a.Cmp
