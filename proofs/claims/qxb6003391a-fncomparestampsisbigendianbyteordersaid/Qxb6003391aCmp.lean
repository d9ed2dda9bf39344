import Derived.Test.Qxb6003391aStamp
import Derived.Test.Qxb6003391aCmpMath
import Derived.Deep.Light
import Derived.Deep.LoopGhost
namespace Go.Proofs.Qxb6003391a.Cmp
open Go.ChangeShapes Go.WideShapes Go.ChangeAt Go.RowKit
open Qxb6003391aCmpMath

/-- The row behind k bytes. -/
def bz (t m : Nat) (g : Nat → Value) (k x : Nat) : Value := if x < k then .int .u8 (by12 t m x) else g x

theorem bz_step {t m : Nat} {g : Nat → Value} {w : World} {b k : Nat} (h : w.rowIs b 24 12 (bz t m g k)) {v : Int} (hv : v = by12 t m k) : (w.setCell ⟨b, k, none⟩ (.int .u8 v)).rowIs b 24 12 (bz t m g (k + 1)) := by
  subst hv
  refine (h.set k _).congr (fun x _ => ?_)
  unfold bz
  by_cases e : x = k
  · subst e; simp
  · by_cases e2 : x < k
    · simp [e, e2, show x < k + 1 by omega]
    · simp [e, e2, show ¬ x < k + 1 by omega]

theorem by_lo (t m k : Nat) (h : k < 8) : (t : Int) / 2 ^ (56 - 8 * k) % 256 = by12 t m k := by unfold by12; rw [if_pos h]
theorem by_hi (t m k : Nat) : (m : Int) / 2 ^ (24 - 8 * k) % 256 = by12 t m (8 + k) := by unfold by12; rw [if_neg (by omega), show 8 + k - 8 = k by omega]

set_option maxHeartbeats 800000 in
theorem put_any (b : Nat) (t m : Nat) (w : World) (g : Nat → Value) (hrow : w.rowIs b 24 12 g) (_ht : t < 18446744073709551616) (_hm : m < 4294967296) :
    Calls Try.prog 9 #[.pointer (some ⟨b, 0, none⟩), .int .u64 t, .int .u32 m] w fun e w' => e = .returned (.tuple #[]) ∧ w'.rowIs b 24 12 (fun x => .int .u8 (by12 t m x)) ∧ (∀ b' f, b' ≠ b → w.rowIs b' 24 12 f → w'.rowIs b' 24 12 f) ∧ Below b w w' := by
  go_enter Try.func9, Try.ntmps9
  go_wp2
  go_loopg [6] 8 (fun gk ctr wx => ∃ k : Nat, k ≤ 8 ∧ gk = 8 - k ∧ ctr = .int .i64 k ∧ wx.rowIs b 24 12 (bz t m g k) ∧ (∀ b' f, b' ≠ b → w.rowIs b' 24 12 f → wx.rowIs b' 24 12 f) ∧ Below b w wx)
  case atStart => exact ⟨0, by omega, rfl, rfl, hrow.congr (fun x _ => by simp [bz]), fun _ _ _ h => h, Below.refl _ _⟩
  case round =>
    obtain ⟨k, hk, rfl, rfl, hr, ho, hb⟩ := hrel
    by_cases hlt : k < 8
    · have hkz : (k : Int) < 8 := by omega
      have c1 := hr.cell (i := k) (by omega)
      have f1 := hr.frozen k
      have hst := bz_step hr (by_lo t m k hlt)
      have ho' : ∀ b' f, b' ≠ b → w.rowIs b' 24 12 f → (wr.setCell ⟨b, k, none⟩ (.int .u8 ((t : Int) / 2 ^ (56 - 8 * k) % 256))).rowIs b' 24 12 f := fun b' f hne h => (ho b' f hne h).setOther (a := ⟨b, k, none⟩) hne _
      go_wp2
      go_roundg (8 - (k + 1))
      case measure => go_light; omega
      case rel => go_light; exact ⟨k + 1, hlt, rfl, by go_num, hst, ho', Below.setCell (p := ⟨b, k, none⟩) hb (Nat.le_refl _) _⟩
    · obtain rfl : k = 8 := by omega
      go_wp2
      go_loopg [7] 4 (fun gk ctr wx => ∃ k : Nat, k ≤ 4 ∧ gk = 4 - k ∧ ctr = .int .i64 k ∧ wx.rowIs b 24 12 (bz t m g (8 + k)) ∧ (∀ b' f, b' ≠ b → w.rowIs b' 24 12 f → wx.rowIs b' 24 12 f) ∧ Below b w wx)
      case atStart => exact ⟨0, by omega, rfl, rfl, hr, ho, hb⟩
      case round =>
        clear hr ho hb
        obtain ⟨k, hk2, rfl, rfl, hr, ho, hb⟩ := hrel
        by_cases hlt2 : k < 4
        · have hkz : (k : Int) < 4 := by omega
          have c1 := hr.cell (i := 8 + k) (by omega)
          have f1 := hr.frozen (8 + k)
          have hst := bz_step hr (by_hi t m k)
          have ho' : ∀ b' f, b' ≠ b → w.rowIs b' 24 12 f → (wr.setCell ⟨b, 8 + k, none⟩ (.int .u8 ((m : Int) / 2 ^ (24 - 8 * k) % 256))).rowIs b' 24 12 f := fun b' f hne h => (ho b' f hne h).setOther (a := ⟨b, 8 + k, none⟩) hne _
          go_wp2
          go_roundg (4 - (k + 1))
          case measure => go_light; omega
          case rel => go_light; exact ⟨k + 1, hlt2, rfl, by go_num, hst, ho', Below.setCell (p := ⟨b, 8 + k, none⟩) hb (Nat.le_refl _) _⟩
        · obtain rfl : k = 4 := by omega
          have hr' : wr.rowIs b 24 12 (fun x => .int .u8 (by12 t m x)) := hr.congr (fun x hx => by unfold bz; rw [if_pos (by omega)])
          clear hr
          go_wp2
          go_end0
          exact ⟨rfl, hr', ho, hb⟩

set_option maxHeartbeats 800000 in
theorem compare_any (b b' : Nat) (f g : Nat → Int) (w : World) (hr : w.rowIs b 24 12 (fun x => .int .u8 (f x))) (hr' : w.rowIs b' 24 12 (fun x => .int .u8 (g x))) :
    Calls Try.prog 10 #[.pointer (some ⟨b, 0, none⟩), .pointer (some ⟨b', 0, none⟩)] w fun e w' => ∃ r : Int, e = .returned (.int .i64 r) ∧ Lex f g r ∧ ∀ B, Below B w w' := by
  go_enter Try.func10, Try.ntmps10
  go_wp2
  go_loopg [5] 12 (fun gk ctr wx => ∃ k : Nat, k ≤ 12 ∧ gk = 12 - k ∧ ctr = .int .i64 k ∧ (∀ j, j < k → f j = g j) ∧ wx.rowIs b 24 12 (fun x => .int .u8 (f x)) ∧ wx.rowIs b' 24 12 (fun x => .int .u8 (g x)) ∧ ∀ B, Below B w wx)
  case atStart => exact ⟨0, by omega, rfl, rfl, fun j hj => by omega, hr, hr', fun B => Below.refl _ _⟩
  case round =>
    clear hr hr'
    obtain ⟨k, hk, rfl, rfl, he, hr, hr', hB⟩ := hrel
    have HE : Aside (∀ j, j < k → f j = g j) := he
    clear he
    by_cases hlt : k < 12
    · have hkz : (k : Int) < 12 := by omega
      have c1 := hr.cell (i := k) (by omega)
      have c2 := hr'.cell (i := k) (by omega)
      by_cases q1 : f k < g k
      · go_wp2
        go_quiet (fail)
        go_wp2
        go_ret
        exact ⟨-1, rfl, .inr (.inl ⟨rfl, k, hlt, HE.out, q1⟩), fun B => below_drewN (hB B) _⟩
      by_cases q2 : g k < f k
      · go_wp2
        go_quiet (fail)
        go_wp2
        go_quiet (fail)
        go_wp2
        go_ret
        exact ⟨1, rfl, .inr (.inr ⟨rfl, k, hlt, HE.out, q2⟩), fun B => below_drewN (below_drewN (hB B) _) _⟩
      · go_wp2
        go_quiet (fail)
        go_wp2
        go_quiet (fail)
        go_wp2
        go_roundg (12 - (k + 1))
        case measure => go_light; omega
        case rel =>
          go_light
          refine ⟨k + 1, hlt, rfl, by go_num, fun j hj => ?_, hr.of_block rfl, hr'.of_block rfl, fun B => below_drewN (hB B) _⟩
          by_cases e : j = k
          · subst e; omega
          · exact HE.out j (by omega)
    · obtain rfl : k = 12 := by omega
      go_wp2
      go_ret
      exact ⟨0, rfl, .inl ⟨rfl, HE.out⟩, hB⟩

theorem cmpS_lt {t m t' m' : Nat} (h : bef t m t' m' = true) : cmpS t m t' m' = -1 := by
  have h := of_decide_eq_true h
  unfold cmpS; rw [if_pos h]
theorem cmpS_gt {t m t' m' : Nat} (h : bef t m t' m' = false) (h' : bef t' m' t m = true) : cmpS t m t' m' = 1 := by
  have h := of_decide_eq_false h
  have h' := of_decide_eq_true h'
  unfold cmpS; rw [if_neg h, if_pos h']
theorem cmpS_eq {t m t' m' : Nat} (h : bef t m t' m' = false) (h' : bef t' m' t m = false) : cmpS t m t' m' = 0 := by
  have h := of_decide_eq_false h
  have h' := of_decide_eq_false h'
  unfold cmpS; rw [if_neg h, if_neg h']

set_option maxHeartbeats 800000 in
theorem stamps_any (t m t' m' : Nat) (w : World) :
    Calls Try.prog 35 #[.agg #[.int .u64 t, .int .u32 m], .agg #[.int .u64 t', .int .u32 m']] w fun e w' => e = .returned (.int .i64 (cmpS t m t' m')) ∧ Below w.heap.size w w' := by
  go_enter Try.func35, Try.ntmps35
  go_wp2_with fail
  refine (before_any t m t' m' _).mono ?_
  rintro e w1 ⟨rfl, hb1⟩
  have k0 : w1.cell? ⟨w.heap.size, 0, none⟩ = some (.int .u64 t) := (hb1.cell (p := ⟨w.heap.size, 0, none⟩) (by simp; omega)).trans (by simp [go_sem])
  have k1 : w1.cell? ⟨w.heap.size, 1, none⟩ = some (.int .u32 m) := (hb1.cell (p := ⟨w.heap.size, 1, none⟩) (by simp; omega)).trans (by simp [go_sem])
  have k2 : w1.cell? ⟨w.heap.size + 1, 0, none⟩ = some (.int .u64 t') := (hb1.cell (p := ⟨w.heap.size + 1, 0, none⟩) (by simp)).trans (by simp [go_sem])
  have k3 : w1.cell? ⟨w.heap.size + 1, 1, none⟩ = some (.int .u32 m') := (hb1.cell (p := ⟨w.heap.size + 1, 1, none⟩) (by simp)).trans (by simp [go_sem])
  have hB1 : Below w.heap.size w w1 := (((Below.refl _ _).alloc (Nat.le_refl _) _).alloc (by simp) _).trans (hb1.mono (by simp; omega))
  clear hb1
  cases hbf : bef t m t' m'
  · go_wp2_with fail
    refine (before_any t' m' t m _).mono ?_
    rintro e w2 ⟨rfl, hb2⟩
    have hB2 := hB1.trans (hb2.mono hB1.size)
    clear hb2 hB1 k0 k1 k2 k3
    cases hbg : bef t' m' t m
    · have e := cmpS_eq hbf hbg
      have HE : Hid (cmpS t m t' m' = 0) := e
      clear e hbf hbg
      go_wp2
      go_ret
      exact ⟨by rw [HE.out]; rfl, hB2⟩
    · have e := cmpS_gt hbf hbg
      have HE : Hid (cmpS t m t' m' = 1) := e
      clear e hbf hbg
      go_wp2
      go_ret
      exact ⟨by rw [HE.out]; rfl, hB2⟩
  · have e := cmpS_lt hbf
    have HE : Hid (cmpS t m t' m' = -1) := e
    clear e hbf
    go_wp2
    go_ret
    exact ⟨by rw [HE.out]; rfl, hB1⟩

theorem zzstamps_any (t m t' m' : Nat) (w : World) :
    Calls Try.prog 11 #[.int .u64 t, .int .u32 m, .int .u64 t', .int .u32 m'] w fun e w' => e = .returned (.int .i64 (cmpS t m t' m')) ∧ Below w.heap.size w w' := by
  go_enter Try.func11, Try.ntmps11
  go_wp2_with (go_at_call 35; refine (stamps_any t m t' m' _).mono ?_; rintro e w1 ⟨rfl, hb1⟩)
  go_ret
  exact ⟨rfl, hb1⟩

def z12 : Array Value := Array.replicate 12 (.int .u8 0)
theorem zero24 (w : World) : (zeroValue 24).run Try.prog w = .ok (.agg z12) w := by kernel_rfl
theorem row12 (w : World) : (w.alloc (.cells z12 24)).rowIs w.heap.size 24 12 (fun _ => .int .u8 0) := ⟨_, Go.Deep.blk_alloc_new _ _, by simp [z12], fun i hi => by simp [z12, hi]⟩

set_option maxHeartbeats 800000 in
theorem main_any (t m t' m' : Nat) (w : World) (ht : t < 18446744073709551616) (hm : m < 4294967296) (ht' : t' < 18446744073709551616) (hm' : m' < 4294967296) :
    Calls Try.prog 3 #[.int .u64 t, .int .u32 m, .int .u64 t', .int .u32 m'] w fun e w' => e = .returned (.bool true) ∧ Below w.heap.size w w' := by
  have hz := zero24
  have r0 := (row12 w).alloc (.cells z12 24)
  have r1 := row12 (w.alloc (.cells z12 24))
  have hsz : (w.alloc (.cells z12 24)).heap.size = w.heap.size + 1 := Go.Deep.nblk_alloc _ _
  rw [hsz] at r1
  have hB0 : Below w.heap.size w ((w.alloc (.cells z12 24)).alloc (.cells z12 24)) := ((Below.refl _ _).alloc (Nat.le_refl _) _).alloc (by simp) _
  clear hsz
  go_enter Try.func3, Try.ntmps3
  go_wp2_with fail
  refine (put_any w.heap.size t m _ _ r0 ht hm).mono ?_
  rintro e w1 ⟨rfl, s0, ho, b1⟩
  have s1 := ho (w.heap.size + 1) _ (by omega) r1
  have hB1 := hB0.trans b1
  clear ho b1 r0 r1 hB0 hz
  go_wp2_with fail
  refine (put_any (w.heap.size + 1) t' m' _ _ s1 ht' hm').mono ?_
  rintro e w2 ⟨rfl, q1, ho, b2⟩
  have q0 := ho w.heap.size _ (by omega) s0
  have hB2 := hB1.trans (b2.mono (by omega))
  clear ho b2 s0 s1 hB1
  go_wp2_with fail
  refine (compare_any w.heap.size (w.heap.size + 1) _ _ _ q0 q1).mono ?_
  rintro e w3 ⟨r, rfl, hlex, b3⟩
  have hB3 := hB2.trans (b3 w.heap.size)
  obtain rfl := lex_cmp ht hm ht' hm' hlex
  clear hlex b3 q0 q1 hB2
  have en := cmp_neg t m t' m'
  have es := cmp_self t m
  obtain ⟨l1, l2⟩ := cmp_bd t m t' m'
  go_wp2_with fail
  refine (zzstamps_any t m t' m' _).mono ?_
  rintro e w4 ⟨rfl, b4⟩
  have hB4 := hB3.trans (b4.mono hB3.size)
  clear b4 hB3
  go_wp2_with fail
  refine (zzstamps_any t' m' t m _).mono ?_
  rintro e w5 ⟨rfl, b5⟩
  have hB5 := hB4.trans (b5.mono hB4.size)
  clear b5 hB4
  go_wp2_with fail
  refine (zzstamps_any t m t m _).mono ?_
  rintro e w6 ⟨rfl, b6⟩
  have hB6 := hB5.trans (b6.mono hB5.size)
  clear b6 hB5
  go_wp2
  go_ret
  exact ⟨by simp, hB6⟩
end Go.Proofs.Qxb6003391a.Cmp
