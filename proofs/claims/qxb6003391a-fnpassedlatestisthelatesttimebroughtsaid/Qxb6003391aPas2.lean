import Derived.Test.Qxb6003391aPas1
namespace Go.Proofs.Qxb6003391a.Pas
open Go.ChangeShapes Go.WideShapes Go.ChangeAt Go.RowKit

/-- The greatest of t and the first k of g. -/
def mx (t : Int) (g : Nat → Int) : Nat → Int
  | 0 => t
  | k + 1 => max (mx t g k) (g k)
theorem mx_ge (t : Int) (g : Nat → Int) (k : Nat) : t ≤ mx t g k := by
  induction k with
  | zero => exact Int.le_refl _
  | succ k ih => simp only [mx]; omega
theorem mx_all (t : Int) (g : Nat → Int) (k : Nat) : ∀ i, i < k → g i ≤ mx t g k := by
  induction k with
  | zero => intro i hi; omega
  | succ k ih =>
    intro i hi
    simp only [mx]
    by_cases e : i = k
    · subst e; omega
    · have := ih i (by omega); omega
theorem mx_least (t : Int) (g : Nat → Int) (k : Nat) (m : Int) (h0 : t ≤ m) (h : ∀ i, i < k → g i ≤ m) : mx t g k ≤ m := by
  induction k with
  | zero => exact h0
  | succ k ih =>
    simp only [mx]
    have := ih (fun i hi => h i (by omega))
    have := h k (by omega)
    omega
theorem mx_rev (t : Int) (g : Nat → Int) (n : Nat) (rev : Bool) : mx t (fun i => g (rv rev n i)) n = mx t g n := by
  cases rev with
  | false => simp [rv]
  | true =>
    apply Int.le_antisymm
    · refine mx_least _ _ _ _ (mx_ge _ _ _) (fun i hi => ?_)
      simp only [rv, if_true]
      exact mx_all t g n _ (by omega)
    · refine mx_least _ _ _ _ (mx_ge _ _ _) (fun i hi => ?_)
      have := mx_all t (fun i => g (rv true n i)) n (n - 1 - i) (by omega)
      simp only [rv, if_true] at this
      rwa [show n - 1 - (n - 1 - i) = i by omega] at this
/-- The last of those that rise. -/
def lastT (f : Nat → Int) (n : Nat) : Int := if n = 0 then 0 else f (n - 1)
theorem mx_last (f : Nat → Int) (n : Nat) (h0 : ∀ i, i < n → 0 ≤ f i) (h : ∀ i, 1 ≤ i → i < n → f (i - 1) ≤ f i) : mx 0 f n = lastT f n := by
  unfold lastT
  by_cases e : n = 0
  · subst e; rfl
  rw [if_neg e]
  have mono : ∀ d i, i + d < n → f i ≤ f (i + d) := by
    intro d
    induction d with
    | zero => intro i _; exact Int.le_refl _
    | succ d ih =>
      intro i hi
      have a := ih i (by omega)
      have b := h (i + (d + 1)) (by omega) hi
      rw [show i + (d + 1) - 1 = i + d by omega] at b
      omega
  apply Int.le_antisymm
  · refine mx_least _ _ _ _ (h0 _ (by omega)) (fun i hi => ?_)
    have := mono (n - 1 - i) i (by omega)
    rwa [show i + (n - 1 - i) = n - 1 by omega] at this
  · exact mx_all 0 f n _ (by omega)

/-- What latest(whole) answers. -/
def lat (t : Int) (g : Nat → Int) (n : Nat) (last : Bool) (time : Int) : Int := if last then max (mx t g n) time else mx t g n

/-- A part that was passed on, at block p. -/
structure Psd (w : World) (p : Nat) (a0 : Option Addr) (n0 c0 : Nat) (f : Nat → Int) (a1 : Option Addr) (n1 c1 : Nat) (g : Nat → Int) (last : Bool) (time : Int) : Prop where
  k0 : w.cell? ⟨p, 0, none⟩ = some (.slice a0 n0 c0)
  k1 : w.cell? ⟨p, 1, none⟩ = some (.slice a1 n1 c1)
  k2 : w.cell? ⟨p, 2, none⟩ = some (.bool last)
  k3 : w.cell? ⟨p, 3, none⟩ = some (.int .u64 time)
  lt : p < w.heap.size
  en : En w a0 n0 f
  ou : Ou w a1 n1 g

theorem Psd.below {w w' : World} {p : Nat} {a0 : Option Addr} {n0 c0 : Nat} {f : Nat → Int} {a1 : Option Addr} {n1 c1 : Nat} {g : Nat → Int} {last : Bool} {time : Int} (h : Psd w p a0 n0 c0 f a1 n1 c1 g last time) (hB : Below w.heap.size w w') : Psd w' p a0 n0 c0 f a1 n1 c1 g last time :=
  ⟨(hB.cell (p := ⟨p, 0, none⟩) h.lt).trans h.k0, (hB.cell (p := ⟨p, 1, none⟩) h.lt).trans h.k1, (hB.cell (p := ⟨p, 2, none⟩) h.lt).trans h.k2, (hB.cell (p := ⟨p, 3, none⟩) h.lt).trans h.k3, Nat.lt_of_lt_of_le h.lt hB.size, h.en.below hB (Nat.le_refl _), h.ou.below hB (Nat.le_refl _)⟩

theorem enV_at (f : Nat → Int) (n i : Nat) (h : i < n) : enV f n (i * 3) = .int .u64 (f i) := by
  unfold enV; rw [if_pos (by omega), show i * 3 / 3 = i by omega, if_pos h]
theorem ouV_0 (f : Nat → Int) (n i : Nat) (h : i < n) : ouV f n (i * 4) = .int .u8 5 := by
  unfold ouV; rw [if_pos (by omega), if_pos (by omega)]
theorem ouV_1 (f : Nat → Int) (n i : Nat) (h : i < n) : ouV f n (i * 4 + 1) = .int .u64 (f i) := by
  unfold ouV; rw [if_neg (by omega), if_pos (by omega), show (i * 4 + 1) / 4 = i by omega, if_pos h]
theorem ouV_2 (f : Nat → Int) (n i : Nat) (h : i < n) : ouV f n (i * 4 + 2) = .int .u32 2 := by
  unfold ouV; rw [if_neg (by omega), if_neg (by omega), if_pos (by omega), if_pos (by omega)]
theorem ouV_3 (f : Nat → Int) (n i : Nat) : ouV f n (i * 4 + 3) = .string ByteArray.empty := by
  unfold ouV; rw [if_neg (by omega), if_neg (by omega), if_neg (by omega)]

set_option maxHeartbeats 800000 in
/-- latest(false). -/
theorem latest_no (p : Nat) (a0 : Option Addr) (n0 c0 : Nat) (f : Nat → Int) (a1 : Option Addr) (n1 c1 : Nat) (g : Nat → Int) (last : Bool) (time : Int) (w : World) (h : Psd w p a0 n0 c0 f a1 n1 c1 g last time) (hn : n0 ≤ 65536) :
    Calls Try.prog 36 #[.pointer (some ⟨p, 0, none⟩), .bool false] w fun e w' => e = .returned (.int .u64 (lastT f n0)) ∧ Below w.heap.size w w' := by
  obtain ⟨k0, k1, k2, k3, hlt, hen, hou⟩ := h
  by_cases e0 : n0 = 0
  · subst e0
    go_enter Try.func36, Try.ntmps36
    go_wp2
    go_ret
    exact ⟨by simp [lastT], Below.refl _ _⟩
  · have hz : (0 : Int) < (n0 : Int) := by omega
    rcases hen with h | ⟨b, rfl, hr⟩
    · omega
    have c1 : w.cell? ⟨b, (n0 - 1) * 3, none⟩ = some (.int .u64 (f (n0 - 1))) := by rw [hr.cell (by omega), enV_at f n0 _ (by omega)]
    have el : lastT f n0 = f (n0 - 1) := by unfold lastT; rw [if_neg e0]
    have HL : Hid (lastT f n0 = f (n0 - 1)) := el
    clear el
    go_enter Try.func36, Try.ntmps36
    go_wp2
    go_ret
    exact ⟨by rw [HL.out]; rfl, Below.refl _ _⟩

set_option maxHeartbeats 1600000 in
/-- latest(true). -/
theorem latest_yes (p : Nat) (a0 : Option Addr) (n0 c0 : Nat) (f : Nat → Int) (a1 : Option Addr) (n1 c1 : Nat) (g : Nat → Int) (last : Bool) (time : Int) (w : World) (h : Psd w p a0 n0 c0 f a1 n1 c1 g last time) (hn : n0 ≤ 65536) (hn1 : n1 ≤ 65536) :
    Calls Try.prog 36 #[.pointer (some ⟨p, 0, none⟩), .bool true] w fun e w' => e = .returned (.int .u64 (lat (lastT f n0) g n1 last time)) ∧ Below w.heap.size w w' := by
  obtain ⟨k0, k1, k2, k3, hlt, hen, hou⟩ := h
  obtain ⟨b, hb⟩ : ∃ b, n0 = 0 ∨ (a0 = some ⟨b, 0, none⟩ ∧ w.cell? ⟨b, (n0 - 1) * 3, none⟩ = some (.int .u64 (f (n0 - 1)))) := by
    rcases hen with h | ⟨b, rfl, hr⟩
    · exact ⟨0, .inl h⟩
    · by_cases e0 : n0 = 0
      · exact ⟨0, .inl e0⟩
      · exact ⟨b, .inr ⟨rfl, by rw [hr.cell (by omega), enV_at f n0 _ (by omega)]⟩⟩
  have fin : ∀ (wr : World), Below w.heap.size w wr → wr.cell? ⟨p, 2, none⟩ = some (.bool last) ∧ wr.cell? ⟨p, 3, none⟩ = some (.int .u64 time) := fun wr hB => ⟨(hB.cell (p := ⟨p, 2, none⟩) hlt).trans k2, (hB.cell (p := ⟨p, 3, none⟩) hlt).trans k3⟩
  by_cases e0 : n0 = 0
  · subst e0
    rw [show lastT f 0 = 0 by simp [lastT]]
    clear hb hen
    go_enter Try.func36, Try.ntmps36
    go_wp2
    go_loopg [32, 5] n1 (fun gk ctr tv wx => ∃ k : Nat, k ≤ n1 ∧ gk = n1 - k ∧ ctr = .int .i64 k ∧ tv = .int .u64 (mx 0 g k) ∧ Below w.heap.size w wx)
    case atStart => exact ⟨0, Nat.zero_le _, rfl, rfl, rfl, Below.refl _ _⟩
    case round =>
      obtain ⟨k, hk, rfl, rfl, rfl, hB⟩ := hrel
      by_cases hlt2 : k < n1
      · rcases hou with h | ⟨b1, rfl, hr⟩
        · omega
        · have hb1 := hr.lt
          have d0 : wr.cell? ⟨b1, k * 4, none⟩ = some (.int .u8 5) := by rw [hB.cell (p := ⟨b1, k * 4, none⟩) hb1, hr.cell (by omega), ouV_0 g n1 k hlt2]
          have d1 : wr.cell? ⟨b1, k * 4 + 1, none⟩ = some (.int .u64 (g k)) := by rw [hB.cell (p := ⟨b1, k * 4 + 1, none⟩) hb1, hr.cell (by omega), ouV_1 g n1 k hlt2]
          have d2 : wr.cell? ⟨b1, k * 4 + 2, none⟩ = some (.int .u32 2) := by rw [hB.cell (p := ⟨b1, k * 4 + 2, none⟩) hb1, hr.cell (by omega), ouV_2 g n1 k hlt2]
          have d3 : wr.cell? ⟨b1, k * 4 + 3, none⟩ = some (.string ByteArray.empty) := by rw [hB.cell (p := ⟨b1, k * 4 + 3, none⟩) hb1, hr.cell (by omega), ouV_3]
          have hkz : (k : Int) < (n1 : Int) := by omega
          clear fin
          by_cases q : mx 0 g k < g k
          · have hmx : mx 0 g (k + 1) = g k := by simp only [mx]; omega
            have HM : Hid (mx 0 g (k + 1) = g k) := hmx
            clear hmx
            go_wp2
            go_roundg (n1 - (k + 1))
            case measure => go_light; omega
            case rel => go_light; exact ⟨k + 1, hlt2, rfl, by go_num, by rw [HM.out], (hB.alloc hB.size _)⟩
          · have hmx : mx 0 g (k + 1) = mx 0 g k := by simp only [mx]; omega
            have HM : Hid (mx 0 g (k + 1) = mx 0 g k) := hmx
            clear hmx
            go_wp2
            go_roundg (n1 - (k + 1))
            case measure => go_light; omega
            case rel => go_light; exact ⟨k + 1, hlt2, rfl, by go_num, by rw [HM.out], (hB.alloc hB.size _)⟩
      · obtain rfl : n1 = k := by omega
        obtain ⟨e2, e3⟩ := fin wr hB
        clear fin
        cases last with
        | false =>
          go_wp2
          go_ret
          exact ⟨by simp [lat], hB⟩
        | true =>
          by_cases q : mx 0 g n1 < time
          · have hl : lat 0 g n1 true time = time := by simp only [lat, if_true]; omega
            have HM : Hid (lat 0 g n1 true time = time) := hl
            clear hl
            go_wp2
            go_ret
            exact ⟨by rw [HM.out]; rfl, hB⟩
          · have hl : lat 0 g n1 true time = mx 0 g n1 := by simp only [lat, if_true]; omega
            have HM : Hid (lat 0 g n1 true time = mx 0 g n1) := hl
            clear hl
            go_wp2
            go_ret
            exact ⟨by rw [HM.out]; rfl, hB⟩
  · rw [show lastT f n0 = f (n0 - 1) by unfold lastT; rw [if_neg e0]]
    rcases hb with h | ⟨rfl, c1⟩
    · omega
    have hz : (0 : Int) < (n0 : Int) := by omega
    have hz2 : decide ((0 : Int) < (n0 : Int)) = true := by simp; omega
    have hz3 : decide (0 < n0) = true := by simp; omega
    clear hen
    go_enter Try.func36, Try.ntmps36
    go_wp2
    go_loopg [32, 5] n1 (fun gk ctr tv wx => ∃ k : Nat, k ≤ n1 ∧ gk = n1 - k ∧ ctr = .int .i64 k ∧ tv = .int .u64 (mx (f (n0 - 1)) g k) ∧ Below w.heap.size w wx)
    case atStart => exact ⟨0, Nat.zero_le _, rfl, rfl, rfl, Below.refl _ _⟩
    case round =>
      obtain ⟨k, hk, rfl, rfl, rfl, hB⟩ := hrel
      by_cases hlt2 : k < n1
      · rcases hou with h | ⟨b1, rfl, hr⟩
        · omega
        · have hb1 := hr.lt
          have d0 : wr.cell? ⟨b1, k * 4, none⟩ = some (.int .u8 5) := by rw [hB.cell (p := ⟨b1, k * 4, none⟩) hb1, hr.cell (by omega), ouV_0 g n1 k hlt2]
          have d1 : wr.cell? ⟨b1, k * 4 + 1, none⟩ = some (.int .u64 (g k)) := by rw [hB.cell (p := ⟨b1, k * 4 + 1, none⟩) hb1, hr.cell (by omega), ouV_1 g n1 k hlt2]
          have d2 : wr.cell? ⟨b1, k * 4 + 2, none⟩ = some (.int .u32 2) := by rw [hB.cell (p := ⟨b1, k * 4 + 2, none⟩) hb1, hr.cell (by omega), ouV_2 g n1 k hlt2]
          have d3 : wr.cell? ⟨b1, k * 4 + 3, none⟩ = some (.string ByteArray.empty) := by rw [hB.cell (p := ⟨b1, k * 4 + 3, none⟩) hb1, hr.cell (by omega), ouV_3]
          have hkz : (k : Int) < (n1 : Int) := by omega
          clear fin
          by_cases q : mx (f (n0 - 1)) g k < g k
          · have hmx : mx (f (n0 - 1)) g (k + 1) = g k := by simp only [mx]; omega
            have HM : Hid (mx (f (n0 - 1)) g (k + 1) = g k) := hmx
            clear hmx
            go_wp2
            go_roundg (n1 - (k + 1))
            case measure => go_light; omega
            case rel => go_light; exact ⟨k + 1, hlt2, rfl, by go_num, by rw [HM.out], (hB.alloc hB.size _)⟩
          · have hmx : mx (f (n0 - 1)) g (k + 1) = mx (f (n0 - 1)) g k := by simp only [mx]; omega
            have HM : Hid (mx (f (n0 - 1)) g (k + 1) = mx (f (n0 - 1)) g k) := hmx
            clear hmx
            go_wp2
            go_roundg (n1 - (k + 1))
            case measure => go_light; omega
            case rel => go_light; exact ⟨k + 1, hlt2, rfl, by go_num, by rw [HM.out], (hB.alloc hB.size _)⟩
      · obtain rfl : n1 = k := by omega
        obtain ⟨e2, e3⟩ := fin wr hB
        clear fin
        cases last with
        | false =>
          go_wp2
          go_ret
          exact ⟨by simp [lat], hB⟩
        | true =>
          by_cases q : mx (f (n0 - 1)) g n1 < time
          · have hl : lat (f (n0 - 1)) g n1 true time = time := by simp only [lat, if_true]; omega
            have HM : Hid (lat (f (n0 - 1)) g n1 true time = time) := hl
            clear hl
            go_wp2
            go_ret
            exact ⟨by rw [HM.out]; rfl, hB⟩
          · have hl : lat (f (n0 - 1)) g n1 true time = mx (f (n0 - 1)) g n1 := by simp only [lat, if_true]; omega
            have HM : Hid (lat (f (n0 - 1)) g n1 true time = mx (f (n0 - 1)) g n1) := hl
            clear hl
            go_wp2
            go_ret
            exact ⟨by rw [HM.out]; rfl, hB⟩

theorem zzlatest_no (p : Nat) (a0 : Option Addr) (n0 c0 : Nat) (f : Nat → Int) (a1 : Option Addr) (n1 c1 : Nat) (g : Nat → Int) (last : Bool) (time : Int) (w : World) (h : Psd w p a0 n0 c0 f a1 n1 c1 g last time) (hn : n0 ≤ 65536) :
    Calls Try.prog 16 #[.pointer (some ⟨p, 0, none⟩), .bool false] w fun e w' => e = .returned (.int .u64 (lastT f n0)) ∧ Below w.heap.size w w' := by
  go_enter Try.func16, Try.ntmps16
  go_wp2_with (go_at_call 36; refine (latest_no p a0 n0 c0 f a1 n1 c1 g last time _ h hn).mono ?_; rintro e w1 ⟨rfl, hb1⟩)
  go_ret
  exact ⟨rfl, hb1⟩
theorem zzlatest_yes (p : Nat) (a0 : Option Addr) (n0 c0 : Nat) (f : Nat → Int) (a1 : Option Addr) (n1 c1 : Nat) (g : Nat → Int) (last : Bool) (time : Int) (w : World) (h : Psd w p a0 n0 c0 f a1 n1 c1 g last time) (hn : n0 ≤ 65536) (hn1 : n1 ≤ 65536) :
    Calls Try.prog 16 #[.pointer (some ⟨p, 0, none⟩), .bool true] w fun e w' => e = .returned (.int .u64 (lat (lastT f n0) g n1 last time)) ∧ Below w.heap.size w w' := by
  go_enter Try.func16, Try.ntmps16
  go_wp2_with (go_at_call 36; refine (latest_yes p a0 n0 c0 f a1 n1 c1 g last time _ h hn hn1).mono ?_; rintro e w1 ⟨rfl, hb1⟩)
  go_ret
  exact ⟨rfl, hb1⟩
end Go.Proofs.Qxb6003391a.Pas
