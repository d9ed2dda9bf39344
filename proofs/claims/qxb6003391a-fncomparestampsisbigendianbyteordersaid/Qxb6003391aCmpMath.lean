/- Bytes of a stamp and their order, plainly. -/
namespace Qxb6003391aCmpMath

/-- The byte i of twelve. -/
def by12 (t m i : Nat) : Int := if i < 8 then (t : Int) / 2 ^ (56 - 8 * i) % 256 else (m : Int) / 2 ^ (24 - 8 * (i - 8)) % 256

/-- The stamp as one number of twelve bytes. -/
def whole (t m : Nat) : Nat := t * 4294967296 + m

theorem by12_whole (t m i : Nat) (hi : i < 12) (hm : m < 4294967296) : by12 t m i = ((whole t m / 256 ^ (11 - i) % 256 : Nat) : Int) := by
  unfold by12 whole
  have hc : i = 0 ∨ i = 1 ∨ i = 2 ∨ i = 3 ∨ i = 4 ∨ i = 5 ∨ i = 6 ∨ i = 7 ∨ i = 8 ∨ i = 9 ∨ i = 10 ∨ i = 11 := by omega
  rcases hc with rfl | rfl | rfl | rfl | rfl | rfl | rfl | rfl | rfl | rfl | rfl | rfl <;> simp <;> omega

/-- The first i bytes are alike: so are the numbers' heads. -/
theorem heads (A B : Nat) (hA : A < 256 ^ 12) (hB : B < 256 ^ 12) (i : Nat) (hi : i ≤ 12) (h : ∀ j, j < i → A / 256 ^ (11 - j) % 256 = B / 256 ^ (11 - j) % 256) : A / 256 ^ (12 - i) = B / 256 ^ (12 - i) := by
  induction i with
  | zero => rw [Nat.sub_zero, Nat.div_eq_of_lt hA, Nat.div_eq_of_lt hB]
  | succ i ih =>
    have e := ih (by omega) (fun j hj => h j (by omega))
    have l := h i (by omega)
    rw [show 12 - i = (11 - i) + 1 by omega, Nat.pow_succ, ← Nat.div_div_eq_div_mul, ← Nat.div_div_eq_div_mul] at e
    rw [show 12 - (i + 1) = 11 - i by omega]
    omega

theorem lex_lt (A B : Nat) (hA : A < 256 ^ 12) (hB : B < 256 ^ 12) (i : Nat) (hi : i < 12) (h : ∀ j, j < i → A / 256 ^ (11 - j) % 256 = B / 256 ^ (11 - j) % 256) (hl : A / 256 ^ (11 - i) % 256 < B / 256 ^ (11 - i) % 256) : A < B := by
  have e := heads A B hA hB i (by omega) h
  rw [show 12 - i = (11 - i) + 1 by omega, Nat.pow_succ, ← Nat.div_div_eq_div_mul, ← Nat.div_div_eq_div_mul] at e
  have hd : A / 256 ^ (11 - i) < B / 256 ^ (11 - i) := by omega
  rcases Nat.lt_or_ge A B with h | h
  · exact h
  · have := Nat.div_le_div_right (c := 256 ^ (11 - i)) h; omega

theorem lex_eq (A B : Nat) (hA : A < 256 ^ 12) (hB : B < 256 ^ 12) (h : ∀ j, j < 12 → A / 256 ^ (11 - j) % 256 = B / 256 ^ (11 - j) % 256) : A = B := by
  have := heads A B hA hB 12 (by omega) h
  simpa using this

/-- What the comparison of the bytes answers. -/
def Lex (f g : Nat → Int) (r : Int) : Prop :=
  (r = 0 ∧ ∀ i, i < 12 → f i = g i) ∨ (r = -1 ∧ ∃ i, i < 12 ∧ (∀ j, j < i → f j = g j) ∧ f i < g i) ∨ (r = 1 ∧ ∃ i, i < 12 ∧ (∀ j, j < i → f j = g j) ∧ g i < f i)

/-- -1, 0, 1 by time, then member. -/
def cmpS (t m t' m' : Nat) : Int := if t < t' ∨ (t = t' ∧ m < m') then -1 else if t' < t ∨ (t' = t ∧ m' < m) then 1 else 0

theorem whole_lt {t m : Nat} (ht : t < 18446744073709551616) (hm : m < 4294967296) : whole t m < 256 ^ 12 := by unfold whole; simp; omega

theorem lex_cmp {t m t' m' : Nat} (ht : t < 18446744073709551616) (hm : m < 4294967296) (ht' : t' < 18446744073709551616) (hm' : m' < 4294967296) {r : Int} (h : Lex (by12 t m) (by12 t' m') r) : r = cmpS t m t' m' := by
  have hA := whole_lt ht hm
  have hB := whole_lt ht' hm'
  have conv : ∀ i, i < 12 → by12 t m i = ((whole t m / 256 ^ (11 - i) % 256 : Nat) : Int) := fun i hi => by12_whole t m i hi hm
  have conv' : ∀ i, i < 12 → by12 t' m' i = ((whole t' m' / 256 ^ (11 - i) % 256 : Nat) : Int) := fun i hi => by12_whole t' m' i hi hm'
  rcases h with ⟨rfl, h⟩ | ⟨rfl, i, hi, he, hl⟩ | ⟨rfl, i, hi, he, hl⟩
  · have := lex_eq _ _ hA hB (fun j hj => by have := h j hj; rw [conv j hj, conv' j hj] at this; exact Int.ofNat_inj.1 this)
    unfold whole at this
    unfold cmpS
    rw [if_neg (by omega), if_neg (by omega)]
  · have := lex_lt _ _ hA hB i hi (fun j hj => by have := he j hj; rw [conv j (by omega), conv' j (by omega)] at this; exact Int.ofNat_inj.1 this) (by rw [conv i hi, conv' i hi] at hl; exact Int.ofNat_lt.1 hl)
    unfold whole at this
    unfold cmpS
    rw [if_pos (by omega)]
  · have := lex_lt _ _ hB hA i hi (fun j hj => by have := he j hj; rw [conv j (by omega), conv' j (by omega)] at this; exact (Int.ofNat_inj.1 this).symm) (by rw [conv i hi, conv' i hi] at hl; exact Int.ofNat_lt.1 hl)
    unfold whole at this
    unfold cmpS
    rw [if_neg (by omega), if_pos (by omega)]

theorem cmp_neg (t m t' m' : Nat) : cmpS t' m' t m = - cmpS t m t' m' := by
  unfold cmpS
  by_cases h1 : t < t' ∨ (t = t' ∧ m < m')
  · rw [if_pos h1, if_neg (by omega), if_pos h1]; rfl
  · by_cases h2 : t' < t ∨ (t' = t ∧ m' < m)
    · rw [if_pos h2, if_neg h1, if_pos h2]
    · rw [if_neg h2, if_neg h1, if_neg h1, if_neg h2]; rfl
theorem cmp_self (t m : Nat) : cmpS t m t m = 0 := by unfold cmpS; rw [if_neg (by omega), if_neg (by omega)]
theorem cmp_bd (t m t' m' : Nat) : -1 ≤ cmpS t m t' m' ∧ cmpS t m t' m' ≤ 1 := by unfold cmpS; split <;> (try split) <;> omega
end Qxb6003391aCmpMath
