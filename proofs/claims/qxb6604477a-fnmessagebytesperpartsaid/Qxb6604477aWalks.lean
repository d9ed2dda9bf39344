import Derived.Test.Qxb6604477aRows
import Derived.WalkKit
import Derived.ProofKit
import Derived.OpenShut
import Derived.Below
namespace Go.Proofs.Qxb6604477a.fnMessageBytesPerPart
open Go.ChangeShapes Go.WideShapes Go.ChangeAt Go.RowKit

/-- What messageBytes answers: a plain def, so that the walk does not look into it. -/
def mb (g s v : Int) : Int := wrap64 (7 + g + v + s * 66)

theorem mb_eq (g s v : Int) : wrap64 (wrap64 (wrap64 (7 + g) + v) + wrap64 (s * 66)) = mb g s v := by
  unfold mb wrap64; omega
theorem mb_zero : mb 0 0 0 = 7 := by unfold mb wrap64; omega
theorem mb_g (g s v : Int) : mb (wrap64 (g + 1)) s v = wrap64 (mb g s v + 1) := by unfold mb wrap64; omega
theorem mb_v (g s v : Int) : mb g s (wrap64 (v + 1)) = wrap64 (mb g s v + 1) := by unfold mb wrap64; omega
theorem mb_s (g s v : Int) : mb g (wrap64 (s + 1)) v = wrap64 (mb g s v + 66) := by unfold mb wrap64; omega
theorem mb_small (g s v : Int) (hg : 0 ≤ g) (hg' : g ≤ 1048576) (hs : 0 ≤ s) (hs' : s ≤ 1048576) (hv : 0 ≤ v) (hv' : v ≤ 1048576) : g + v + 64 * s < mb g s v := by
  unfold mb
  rw [IntWalk.wrap64_in _ ⟨by omega, by omega⟩]
  omega
theorem mb_g' (g s v : Int) : mb (g + 1) s v = wrap64 (mb g s v + 1) := by unfold mb wrap64; omega
theorem mb_v' (g s v : Int) : mb g s (v + 1) = wrap64 (mb g s v + 1) := by unfold mb wrap64; omega
theorem mb_s' (g s v : Int) : mb g (s + 1) v = wrap64 (mb g s v + 66) := by unfold mb wrap64; omega
theorem ret_int {k : IntKind} {a b : Int} (h : a = b) : Ending.returned (.int k a) = .returned (.int k b) := by rw [h]

theorem message (g s v : Int) (w : World) : Calls Try.prog 6 #[.int .i64 g, .int .i64 s, .int .i64 v] w fun e w' => e = .returned (.int .i64 (mb g s v)) ∧ w = w' := by
  go_enter Try.func6, Try.ntmps6
  go_wp2
  go_ret
  exact ⟨ret_int (mb_eq g s v), rfl⟩

theorem zzmessage (g s v : Int) (w : World) : Calls Try.prog 5 #[.int .i64 g, .int .i64 s, .int .i64 v] w fun e w' => e = .returned (.int .i64 (mb g s v)) ∧ w = w' := by
  go_enter Try.func5, Try.ntmps5
  go_wp2_with (go_at_call 6; refine (message g s v _).mono ?_; rintro e w' ⟨rfl, rfl⟩)
  go_ret
  exact ⟨rfl, rfl⟩

theorem walk0 (g s v : Int) (w : World) : Calls Try.prog 3 #[.int .i64 g, .int .i64 s, .int .i64 v] w fun e w' => e = .returned (.bool true) ∧ Below w.heap.size w w' := by
  have e0 := mb_zero
  have eg := mb_g g s v
  have ev := mb_v g s v
  have es := mb_s g s v
  by_cases h : g < 0 ∨ s < 0 ∨ v < 0 ∨ 1048576 < g ∨ 1048576 < s ∨ 1048576 < v
  · have H : Hid (g < 0 ∨ s < 0 ∨ v < 0 ∨ 1048576 < g ∨ 1048576 < s ∨ 1048576 < v) := h
    clear h
    go_enter Try.func3, Try.ntmps3
    go_wp2_with (go_at_call 5; refine (zzmessage _ _ _ _).mono ?_; rintro e w' ⟨rfl, rfl⟩)
    all_goals go_ret
    all_goals first | exact ⟨rfl, Below.refl _ _⟩ | (have := H.out; omega)
  · have h1 : ¬ g < 0 := by omega
    have h2 : ¬ s < 0 := by omega
    have h3 : ¬ v < 0 := by omega
    have h4 : ¬ 1048576 < g := by omega
    have h5 : ¬ 1048576 < s := by omega
    have h6 : ¬ 1048576 < v := by omega
    have hsm := mb_small g s v (by omega) (by omega) (by omega) (by omega) (by omega) (by omega)
    have eg' := mb_g' g s v
    have ev' := mb_v' g s v
    have es' := mb_s' g s v
    clear h eg ev es
    go_enter Try.func3, Try.ntmps3
    go_wp2_with (go_at_call 5; refine (zzmessage _ _ _ _).mono ?_; rintro e w' ⟨rfl, rfl⟩)
    go_ret
    exact ⟨by simp, Below.refl _ _⟩
end Go.Proofs.Qxb6604477a.fnMessageBytesPerPart
