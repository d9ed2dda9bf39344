import Derived.Test.Qxb6003391aDia5
namespace Go.Proofs.Qxb6003391a.Dia
open Go.ChangeShapes Go.WideShapes Go.ChangeAt Go.RowKit
open Qxb6003391aDiaMath

/-- What 'var dist [32][32]int' lays. -/
def bigC : Array Value := Array.replicate 1024 (.int .i64 0)

theorem zero61 (w : World) : (zeroValue 61).run Try.prog w = .ok (.agg bigC) w := by kernel_rfl

/-- The table, row by row. -/
def mat (D : Nat → Nat → Int) (x : Nat) : Value := .int .i64 (D (x / 32) (x % 32))
theorem mat_at (D : Nat → Nat → Int) {i j : Nat} (hj : j < 32) : mat D (i * 32 + j) = .int .i64 (D i j) := by
  have e1 : (i * 32 + j) / 32 = i := by omega
  have e2 : (i * 32 + j) % 32 = j := by omega
  simp only [mat, e1, e2]

structure Mt (B : Nat) (wA wr : World) (D : Nat → Nat → Int) : Prop where
  row : wr.rowIs B 61 1024 (mat D)
  bel : Below B wA wr

theorem Mt.start (w : World) : Mt w.heap.size w (w.alloc (.cells bigC 61)) (fun _ _ => 0) :=
  ⟨⟨_, Go.Deep.blk_alloc_new _ _, by simp [bigC], fun i hi => by simp [mat, bigC, hi]⟩, (Below.refl _ _).alloc (Nat.le_refl _) _⟩
theorem Mt.cell {B : Nat} {wA wr : World} {D : Nat → Nat → Int} (h : Mt B wA wr D) {i j : Nat} (hi : i < 32) (hj : j < 32) : wr.cell? ⟨B, i * 32 + j, none⟩ = some (.int .i64 (D i j)) := by
  rw [h.row.cell (by omega), mat_at D hj]
theorem Mt.frozen {B : Nat} {wA wr : World} {D : Nat → Nat → Int} (h : Mt B wA wr D) (x : Nat) : wr.frozen? ⟨B, x, none⟩ = false := h.row.frozen x
theorem Mt.set {B : Nat} {wA wr : World} {D : Nat → Nat → Int} (h : Mt B wA wr D) {i j : Nat} (hj : j < 32) (v : Int) : Mt B wA (wr.setCell ⟨B, i * 32 + j, none⟩ (.int .i64 v)) (upd2 D i j v) := by
  refine ⟨(h.row.set (i * 32 + j) _).congr (fun x _ => ?_), Below.setCell (p := ⟨B, i * 32 + j, none⟩) h.bel (Nat.le_refl _) _⟩
  unfold mat upd2
  by_cases e : x = i * 32 + j
  · rw [if_pos e, if_pos (by omega)]
  · rw [if_neg e, if_neg (by omega)]
theorem Mt.drew {B : Nat} {wA wr : World} {D : Nat → Nat → Int} (h : Mt B wA wr D) : Mt B wA wr.drew D := ⟨h.row.drew, h.bel.drew⟩
theorem Mt.drewN {B : Nat} {wA wr : World} {D : Nat → Nat → Int} (h : Mt B wA wr D) (n : Nat) : Mt B wA (wr.drewN n) D := ⟨h.row.of_block rfl, below_drewN h.bel n⟩

/-- The table as it is laid at first, up to place (i, j); and with the first k links. -/
def D0 (n i0 j0 : Nat) (D : Nat → Nat → Int) : Prop := ∀ i j, i < n → j < n → (i < i0 ∨ (i = i0 ∧ j < j0)) → D i j = if i = j then 0 else 1048576
def D1 (n : Nat) (F T : Nat → Nat) (k : Nat) (D : Nat → Nat → Int) : Prop :=
  ∀ i j, i < n → j < n → (i = j → D i j = 0) ∧ (i ≠ j → Ed F T k i j → D i j = 1) ∧ (i ≠ j → ¬ Ed F T k i j → D i j = 1048576)

theorem D0.step {n i j : Nat} {D : Nat → Nat → Int} (h : D0 n i j D) : D0 n i (j + 1) (upd2 D i j (if i = j then 0 else 1048576)) := by
  intro a b ha hb hab
  unfold upd2
  split
  · next e => obtain ⟨rfl, rfl⟩ := e; rfl
  · next e => exact h a b ha hb (by omega)
theorem D0.row {n i : Nat} {D : Nat → Nat → Int} (h : D0 n i n D) : D0 n (i + 1) 0 D := fun a b ha hb hab => h a b ha hb (by omega)
theorem D0.toD1 {n : Nat} {F T : Nat → Nat} {D : Nat → Nat → Int} (h : D0 n n 0 D) : D1 n F T 0 D := by
  intro i j hi hj
  have := h i j hi hj (.inl hi)
  refine ⟨fun e => by rw [this, if_pos e], fun _ ⟨x, hx, _⟩ => by omega, fun e _ => by rw [this, if_neg e]⟩
theorem ed_succ (F T : Nat → Nat) (k u v : Nat) : Ed F T (k + 1) u v ↔ Ed F T k u v ∨ (F k = u ∧ T k = v) := by
  constructor
  · rintro ⟨i, hi, h1, h2⟩
    by_cases e : i = k
    · subst e; exact .inr ⟨h1, h2⟩
    · exact .inl ⟨i, by omega, h1, h2⟩
  · rintro (⟨i, hi, h⟩ | h)
    · exact ⟨i, by omega, h⟩
    · exact ⟨k, by omega, h⟩
theorem D1.put {n : Nat} {F T : Nat → Nat} {k : Nat} {D : Nat → Nat → Int} (h : D1 n F T k D) (hne : F k ≠ T k) : D1 n F T (k + 1) (upd2 D (F k) (T k) 1) := by
  intro i j hi hj
  obtain ⟨h1, h2, h3⟩ := h i j hi hj
  rw [ed_succ]
  unfold upd2
  refine ⟨fun e => ?_, fun e he => ?_, fun e he => ?_⟩
  · rw [if_neg (by omega)]; exact h1 e
  · split
    · rfl
    · next hn => exact h2 e (he.resolve_right (fun x => hn ⟨x.1.symm, x.2.symm⟩))
  · rw [if_neg (fun x => he (.inr ⟨x.1.symm, x.2.symm⟩))]; exact h3 e (fun x => he (.inl x))
theorem D1.skip {n : Nat} {F T : Nat → Nat} {k : Nat} {D : Nat → Nat → Int} (h : D1 n F T k D) (he : F k = T k) : D1 n F T (k + 1) D := by
  intro i j hi hj
  obtain ⟨h1, h2, h3⟩ := h i j hi hj
  rw [ed_succ]
  exact ⟨h1, fun e x => h2 e (x.resolve_right (fun y => e (by rw [← y.1, ← y.2, he]))), fun e x => h3 e (fun y => x (.inl y))⟩
theorem D1.begin {n : Nat} {F T : Nat → Nat} {k : Nat} {D : Nat → Nat → Int} (h : D1 n F T k D) : Ent (Ed F T k) n D ∧ FW (Ed F T k) n D 0 0 0 := by
  refine ⟨fun i j hi hj => ?_, fun i j hi hj x hx => ?_, fun _ _ _ _ hab => by omega⟩
  · obtain ⟨h1, h2, h3⟩ := h i j hi hj
    unfold inf
    by_cases e : i = j
    · rw [h1 e]; exact ⟨by omega, by omega, fun _ => e⟩
    · by_cases he : Ed F T k i j
      · rw [h2 e he]; exact ⟨by omega, by omega, fun _ => ⟨i, rfl, he⟩⟩
      · rw [h3 e he]; exact ⟨by omega, by omega, fun x => by omega⟩
  · obtain ⟨h1, h2, h3⟩ := h i j hi hj
    rcases hx with ⟨rfl, e⟩ | ⟨rfl, he⟩
    · rw [h1 e]; exact Int.le_refl _
    · by_cases e : i = j
      · rw [h1 e]; omega
      · rw [h2 e he]; exact Int.le_refl _

theorem Sl.congr {k : IntKind} {w : World} {a : Option Addr} {len : Nat} {f : Nat → Int} {F : Nat → Nat} (h : Sl k w a len f) (hF : ∀ i, i < len → f i = F i) : Sl k w a len (fun i => (F i : Int)) := by
  rcases h with h | ⟨b, o, ha, hb, hc⟩
  · exact .inl h
  · exact .inr ⟨b, o, ha, hb, fun i hi => by rw [hc i hi, hF i hi]⟩

/-- Are the first k links in range? -/
def Ok (n : Nat) (f t : Nat → Int) (k : Nat) : Prop := ∀ i, i < k → 0 ≤ f i ∧ f i < n ∧ 0 ≤ t i ∧ t i < n

set_option maxRecDepth 100000 in
set_option maxHeartbeats 8000000 in
theorem main_any (n : Nat) (a0 a1 : Option Addr) (len cap0 cap1 : Nat) (f t : Nat → Int) (w : World) (h0 : Sl .i64 w a0 len f) (h1 : Sl .i64 w a1 len t) (hn : n ≤ 32) (hlen : len ≤ 4096) :
    Calls Try.prog 7 #[.int .i64 n, .slice a0 len cap0, .slice a1 len cap1] w fun e w' => e = .returned (.bool true) ∧ Below w.heap.size w w' := by
  have hal := zero61
  have t1 : decide ((n : Int) < 0) = false := by simp
  have t2 : decide (32 < (n : Int)) = false := by simp; omega
  have t3 : decide (4096 < (len : Int)) = false := by simp; omega
  have t4 : ((len : Int) != (len : Int)) = false := by simp
  go_enter Try.func7, Try.ntmps7
  go_wp2_with (go_at_call 25; refine (bytes_any _ _ _ _ _ _ _ _ (by unfold maxLen; omega) (by unfold maxLen; omega)).mono ?_; rintro e w' ⟨rb, rfl, rfl, hrb⟩; obtain rfl := hrb hlen hlen)
  go_loop [7] (fun i => ∃ k : Nat, k ≤ len ∧ i = .int .i64 k ∧ Ok n f t k) (fun i => len - (intOf i).toNat)
  case atStart => exact ⟨0, Nat.zero_le _, rfl, fun i hi => by omega⟩
  case round =>
    obtain ⟨k, hk, rfl, hok⟩ := hrel
    by_cases hlt : k < len
    · rcases h0 with h | ⟨b0, o0, rfl, hb0, hc0⟩
      · omega
      rcases h1 with h | ⟨b1, o1, rfl, hb1, hc1⟩
      · omega
      have c0 := hc0 k hlt
      have c1 := hc1 k hlt
      have i2 : (k : Int) < (len : Int) := by omega
      by_cases q1 : f k < 0
      · go_wp2
        go_ret
        exact ⟨rfl, Below.refl _ _⟩
      by_cases q2 : (n : Int) ≤ f k
      · go_wp2
        go_ret
        exact ⟨rfl, Below.refl _ _⟩
      by_cases q3 : t k < 0
      · go_wp2
        go_ret
        exact ⟨rfl, Below.refl _ _⟩
      by_cases q4 : (n : Int) ≤ t k
      · go_wp2
        go_ret
        exact ⟨rfl, Below.refl _ _⟩
      · have hok1 : Ok n f t (k + 1) := fun i hi => by
          by_cases e : i = k
          · subst e; omega
          · exact hok i (by omega)
        go_wp2
        go_round
        case rel => exact ⟨k + 1, hlt, by go_num, hok1⟩
        case measure => simp [intOf]; omega
    · obtain rfl : len = k := by omega
      obtain ⟨F, hF⟩ : ∃ F : Nat → Nat, ∀ i, i < len → f i = F i := ⟨fun i => (f i).toNat, fun i hi => by have := hok i hi; show f i = ((f i).toNat : Int); omega⟩
      obtain ⟨T, hT⟩ : ∃ T : Nat → Nat, ∀ i, i < len → t i = T i := ⟨fun i => (t i).toNat, fun i hi => by have := hok i hi; show t i = ((t i).toNat : Int); omega⟩
      have hFn : ∀ i, i < len → F i < n := fun i hi => by have := hok i hi; rw [hF i hi] at this; omega
      have hTn : ∀ i, i < len → T i < n := fun i hi => by have := hok i hi; rw [hT i hi] at this; omega
      have g0 : Sl .i64 w a0 len (fun i => (F i : Int)) := Sl.congr h0 hF
      have g1 : Sl .i64 w a1 len (fun i => (T i : Int)) := Sl.congr h1 hT
      have hEn : ∀ u v, Ed F T len u v → u < n ∧ v < n := fun u v ⟨i, hi, h1, h2⟩ => ⟨h1 ▸ hFn i hi, h2 ▸ hTn i hi⟩
      clear h0 h1 hF hT hok t3 t4
      go_wp2_with fail
      refine (cloneInts_any _ _ _ _ _ g0 (by omega)).mono ?_
      rintro e w1 ⟨a0', cap0', rfl, s0, b1⟩
      go_wp2_with fail
      refine (cloneInts_any _ _ _ _ _ (g1.below b1 (Nat.le_refl _)) (by omega)).mono ?_
      rintro e w2 ⟨a1', cap1', rfl, s1, b2⟩
      have s0' := s0.below b2 (Nat.le_refl _)
      go_wp2_with fail
      refine (zz_any n _ _ len _ _ F T _ s0' s1 hn hlen hFn hTn).mono ?_
      rintro e wA ⟨d, rfl, hdia, hd32, b3⟩
      have s0A := s0'.below b3 (Nat.le_refl _)
      have s1A := s1.below b3 (Nat.le_refl _)
      have hB : Below w.heap.size w wA := (b1.trans (b2.mono b1.size)).trans (b3.mono (Nat.le_trans b1.size b2.size))
      clear b1 b2 b3 s0 s1 s0' g0 g1
      have hM0 := Mt.start wA
      go_wp2
      clear hal
      go_loopg [10] n (fun gk ctr wx => ∃ i : Nat, i ≤ n ∧ gk = n - i ∧ ctr = .int .i64 i ∧ ∃ D, Mt wA.heap.size wA wx D ∧ D0 n i 0 D)
      case atStart => exact ⟨0, Nat.zero_le _, rfl, rfl, _, hM0, fun _ _ _ _ h => by omega⟩
      case round =>
        clear hM0
        obtain ⟨i, hin, rfl, rfl, D, hM, hD⟩ := hrel
        by_cases hi : i < n
        · have hiz : (i : Int) < (n : Int) := by omega
          go_wp2
          go_loopg [11] n (fun gk ctr wx => ∃ j : Nat, j ≤ n ∧ gk = n - j ∧ ctr = .int .i64 j ∧ ∃ D, Mt wA.heap.size wA wx D ∧ D0 n i j D)
          case atStart => exact ⟨0, Nat.zero_le _, rfl, rfl, D, hM, hD⟩
          case round =>
            clear hM hD
            obtain ⟨j, hjn, rfl, rfl, D2, hM, hD⟩ := hrel
            by_cases hj : j < n
            · have hjz : (j : Int) < (n : Int) := by omega
              have c1 := hM.cell (i := i) (j := j) (by omega) (by omega)
              have f1 := hM.frozen (i * 32 + j)
              by_cases e : i = j
              · subst e
                have hM' := hM.set (i := i) (j := i) (by omega) 0
                have hD' := hD.step
                rw [if_pos rfl] at hD'
                go_wp2
                go_roundg (n - (i + 1))
                case measure => go_light; omega
                case rel => go_light; exact ⟨i + 1, hj, rfl, by go_num, _, hM', hD'⟩
              · have e' : ((i : Int) == (j : Int)) = false := by simp; omega
                have hM' := hM.set (i := i) (j := j) (by omega) 1048576
                have hD' := hD.step
                rw [if_neg e] at hD'
                go_wp2
                go_roundg (n - (j + 1))
                case measure => go_light; omega
                case rel => go_light; exact ⟨j + 1, hj, rfl, by go_num, _, hM', hD'⟩
            · obtain rfl : n = j := by omega
              go_wp2
              go_roundg (n - (i + 1))
              case measure => go_light; omega
              case rel => go_light; exact ⟨i + 1, hi, rfl, by go_num, _, hM, hD.row⟩
        · obtain rfl : n = i := by omega
          have hD1 := hD.toD1 (F := F) (T := T)
          clear hD
          go_wp2
          go_loopg [12] len (fun gk ctr wx => ∃ k : Nat, k ≤ len ∧ gk = len - k ∧ ctr = .int .i64 k ∧ ∃ D, Mt wA.heap.size wA wx D ∧ D1 n F T k D)
          case atStart => exact ⟨0, Nat.zero_le _, rfl, rfl, D, hM, hD1⟩
          case round =>
            clear hM hD1
            obtain ⟨k, hkl, rfl, rfl, D2, hM, hD1⟩ := hrel
            by_cases hk2 : k < len
            · rcases s0A with h | ⟨b0, o0, rfl, hb0, hc0⟩
              · omega
              rcases s1A with h | ⟨b1, o1, rfl, hb1, hc1⟩
              · omega
              have c0 : wr.cell? ⟨b0, o0 + k, none⟩ = some (.int .i64 (F k)) := by rw [hM.bel.cell (p := ⟨b0, o0 + k, none⟩) hb0]; exact hc0 k hk2
              have c1 : wr.cell? ⟨b1, o1 + k, none⟩ = some (.int .i64 (T k)) := by rw [hM.bel.cell (p := ⟨b1, o1 + k, none⟩) hb1]; exact hc1 k hk2
              have hkz : (k : Int) < (len : Int) := by omega
              have hf := hFn k hk2
              have ht := hTn k hk2
              have hfz : (F k : Int) < 32 := by omega
              have htz : (T k : Int) < 32 := by omega
              by_cases e : F k = T k
              · have e' : ((F k : Int) != (T k : Int)) = false := by simp [e]
                have hD' := hD1.skip e
                have HE : Hid (F k = T k) := e
                clear e
                go_wp2
                go_roundg (len - (k + 1))
                case measure => go_light; omega
                case rel => go_light; exact ⟨k + 1, hk2, rfl, by go_num, _, hM, hD'⟩
              · have e' : ((F k : Int) != (T k : Int)) = true := by rw [bne_iff_ne]; omega
                have c2 := hM.cell (i := F k) (j := T k) (by omega) (by omega)
                have f2 := hM.frozen (F k * 32 + T k)
                have hM' := hM.set (i := F k) (j := T k) (by omega) 1
                have hD' := hD1.put e
                go_wp2
                go_roundg (len - (k + 1))
                case measure => go_light; omega
                case rel => go_light; exact ⟨k + 1, hk2, rfl, by go_num, _, hM', hD'⟩
            · obtain rfl : len = k := by omega
              obtain ⟨hent, hfw⟩ := hD1.begin
              clear hD1
              go_wp2
              go_loopg [15] n (fun gk ctr wx => ∃ k : Nat, k ≤ n ∧ gk = n - k ∧ ctr = .int .i64 k ∧ ∃ D, Mt wA.heap.size wA wx D ∧ Ent (Ed F T len) n D ∧ FW (Ed F T len) n D k 0 0)
              case atStart => exact ⟨0, Nat.zero_le _, rfl, rfl, D2, hM, hent, hfw⟩
              case round =>
                clear hM hent hfw
                obtain ⟨k, hkn, rfl, rfl, D3, hM, hent, hfw⟩ := hrel
                by_cases hkn2 : k < n
                · have hkz : (k : Int) < (n : Int) := by omega
                  go_wp2
                  go_loopg [16] n (fun gk ctr wx => ∃ i : Nat, i ≤ n ∧ gk = n - i ∧ ctr = .int .i64 i ∧ ∃ D, Mt wA.heap.size wA wx D ∧ Ent (Ed F T len) n D ∧ FW (Ed F T len) n D k i 0)
                  case atStart => exact ⟨0, Nat.zero_le _, rfl, rfl, D3, hM, hent, hfw⟩
                  case round =>
                    clear hM hent hfw
                    obtain ⟨i, hin2, rfl, rfl, D4, hM, hent, hfw⟩ := hrel
                    by_cases hi2 : i < n
                    · have hiz : (i : Int) < (n : Int) := by omega
                      go_wp2
                      go_loopg [17] n (fun gk ctr wx => ∃ j : Nat, j ≤ n ∧ gk = n - j ∧ ctr = .int .i64 j ∧ ∃ D, Mt wA.heap.size wA wx D ∧ Ent (Ed F T len) n D ∧ FW (Ed F T len) n D k i j)
                      case atStart => exact ⟨0, Nat.zero_le _, rfl, rfl, D4, hM, hent, hfw⟩
                      case round =>
                        clear hM hent hfw
                        obtain ⟨j, hjn2, rfl, rfl, D5, hM, hent, hfw⟩ := hrel
                        by_cases hj2 : j < n
                        · have hjz : (j : Int) < (n : Int) := by omega
                          have hi32 : (i : Int) < 32 := by omega
                          have hj32 : (j : Int) < 32 := by omega
                          have hk32 : (k : Int) < 32 := by omega
                          have cik := hM.cell (i := i) (j := k) (by omega) (by omega)
                          have ckj := hM.cell (i := k) (j := j) (by omega) (by omega)
                          have cij := hM.cell (i := i) (j := j) (by omega) (by omega)
                          have fij := hM.frozen (i * 32 + j)
                          obtain ⟨p1, p2, _⟩ := hent i k hi2 hkn2
                          obtain ⟨p3, p4, _⟩ := hent k j hkn2 hj2
                          simp only [inf] at p2 p4
                          go_wp2
                          by_cases hlt2 : D5 i k + D5 k j < D5 i j
                          · obtain ⟨hent', hfw'⟩ := FW.relax hkn2 hi2 hj2 hent hfw hlt2
                            go_quiet (fail)
                            go_wp2
                            go_region
                            all_goals
                              have hM' := ((hM.drewN nq).set (i := i) (j := j) (by omega) (D5 i k + D5 k j)).drew
                              go_wp2
                              go_roundg (n - (j + 1))
                              case measure => go_light; omega
                              case rel => go_light; exact ⟨j + 1, hj2, rfl, by go_num, _, hM', hent', hfw'⟩
                          · have hfw' := FW.keep hkn2 hi2 hj2 hfw hlt2
                            go_quiet (fail)
                            go_wp2
                            go_roundg (n - (j + 1))
                            case measure => go_light; omega
                            case rel => go_light; exact ⟨j + 1, hj2, rfl, by go_num, _, hM.drewN nq, hent, hfw'⟩
                        · obtain rfl : n = j := by omega
                          go_wp2
                          go_roundg (n - (i + 1))
                          case measure => go_light; omega
                          case rel => go_light; exact ⟨i + 1, hi2, rfl, by go_num, _, hM, hent, hfw.row⟩
                    · obtain rfl : n = i := by omega
                      go_wp2
                      go_roundg (n - (k + 1))
                      case measure => go_light; omega
                      case rel => go_light; exact ⟨k + 1, hkn2, rfl, by go_num, _, hM, hent, hfw.phase⟩
                · obtain rfl : n = k := by omega
                  go_wp2
                  go_loopg [18, 19] n (fun gk mv ctr wx => ∃ i : Nat, i ≤ n ∧ gk = n - i ∧ ctr = .int .i64 i ∧ Mt wA.heap.size wA wx D3 ∧ ∃ m : Int, mv = .int .i64 m ∧ Most n D3 i 0 m)
                  case atStart => exact ⟨0, Nat.zero_le _, rfl, rfl, hM, 0, rfl, Most.start _ _⟩
                  case round =>
                    clear hM
                    obtain ⟨i, hin2, rfl, rfl, hM, m, rfl, hmo⟩ := hrel
                    by_cases hi2 : i < n
                    · have hiz : (i : Int) < (n : Int) := by omega
                      go_wp2
                      go_loopg [18, 20] n (fun gk mv ctr wx => ∃ j : Nat, j ≤ n ∧ gk = n - j ∧ ctr = .int .i64 j ∧ Mt wA.heap.size wA wx D3 ∧ ∃ m : Int, mv = .int .i64 m ∧ Most n D3 i j m)
                      case atStart => exact ⟨0, Nat.zero_le _, rfl, rfl, hM, m, rfl, hmo⟩
                      case round =>
                        clear hM hmo
                        obtain ⟨j, hjn2, rfl, rfl, hM, m2, rfl, hmo⟩ := hrel
                        by_cases hj2 : j < n
                        · have hjz : (j : Int) < (n : Int) := by omega
                          have hi32 : (i : Int) < 32 := by omega
                          have hj32 : (j : Int) < 32 := by omega
                          have cij := hM.cell (i := i) (j := j) (by omega) (by omega)
                          by_cases hA : D3 i j < 1048576
                          · by_cases hBB : m2 < D3 i j
                            · have hmo' := hmo.take hi2 hj2 hA hBB
                              go_wp2
                              go_roundg (n - (j + 1))
                              case measure => go_light; omega
                              case rel => go_light; exact ⟨j + 1, hj2, rfl, by go_num, hM, _, rfl, hmo'⟩
                            · have hmo' := hmo.pass (fun x => hBB x.2)
                              go_wp2
                              go_roundg (n - (j + 1))
                              case measure => go_light; omega
                              case rel => go_light; exact ⟨j + 1, hj2, rfl, by go_num, hM, _, rfl, hmo'⟩
                          · have hmo' := hmo.pass (fun x => hA x.1)
                            go_wp2
                            go_roundg (n - (j + 1))
                            case measure => go_light; omega
                            case rel => go_light; exact ⟨j + 1, hj2, rfl, by go_num, hM, _, rfl, hmo'⟩
                        · obtain rfl : n = j := by omega
                          go_wp2
                          go_roundg (n - (i + 1))
                          case measure => go_light; omega
                          case rel => go_light; exact ⟨i + 1, hi2, rfl, by go_num, hM, _, rfl, hmo.row⟩
                    · obtain rfl : n = i := by omega
                      have hdia2 := Most.dia hEn hent hfw hmo (hdia.bound hd32)
                      obtain rfl := hdia.unique hdia2
                      have hfinal : Below w.heap.size w wr := hB.trans (hM.bel.mono hB.size)
                      clear hM hmo hent hfw hdia hdia2
                      go_wp2
                      go_ret
                      exact ⟨by simp, hfinal⟩
end Go.Proofs.Qxb6003391a.Dia
