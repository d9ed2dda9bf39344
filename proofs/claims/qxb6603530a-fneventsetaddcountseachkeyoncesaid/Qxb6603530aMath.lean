import Derived.Test.Qxb6603530aFirst
import Derived.Test.Qxb6603530aAdd
/- The plain law: what the set holds behind the script, told by the flags of the first events. -/
namespace Go.Proofs.Qxb6603530a

/-- What is kept of the first i events. -/
def KK (E : Nat → Ev) : Nat → List Ev
  | 0 => []
  | i + 1 => if firstB E i then KK E i ++ [E i] else KK E i

theorem hit_iff (E : Nat → Ev) (i j : Nat) : hit E i j = true ↔ key (E j) = key (E i) := by
  simp only [hit, Bool.and_eq_true, sbeq_true, key, Prod.mk.injEq]
theorem firstB_false {E : Nat → Ev} {i : Nat} (h : firstB E i = false) : ∃ j, j < i ∧ key (E j) = key (E i) := by
  simp only [firstB, decide_eq_false_iff_not] at h
  false_or_by_contra
  rename_i hno
  refine h fun j hj => ?_
  cases hh : hit E i j with
  | false => rfl
  | true => exact absurd ⟨j, hj, (hit_iff E i j).1 hh⟩ hno
theorem firstB_true {E : Nat → Ev} {i : Nat} (h : firstB E i = true) : ∀ j, j < i → key (E j) ≠ key (E i) := by
  simp only [firstB, decide_eq_true_eq] at h
  intro j hj e
  have := (hit_iff E i j).2 e
  rw [h j hj] at this
  cases this

theorem KK_mem {E : Nat → Ev} {i : Nat} {x : Ev} : x ∈ KK E i ↔ ∃ j, j < i ∧ firstB E j = true ∧ x = E j := by
  induction i with
  | zero => simp [KK]
  | succ i ih =>
    rw [KK]
    by_cases hf : firstB E i = true
    · rw [if_pos hf, List.mem_append, List.mem_singleton, ih]
      constructor
      · rintro (⟨j, hj, h1, h2⟩ | rfl)
        · exact ⟨j, by omega, h1, h2⟩
        · exact ⟨i, by omega, hf, rfl⟩
      · rintro ⟨j, hj, h1, h2⟩
        by_cases e : j = i
        · subst e; exact .inr h2
        · exact .inl ⟨j, by omega, h1, h2⟩
    · rw [if_neg hf, ih]
      constructor
      · rintro ⟨j, hj, h1, h2⟩; exact ⟨j, by omega, h1, h2⟩
      · rintro ⟨j, hj, h1, h2⟩
        by_cases e : j = i
        · subst e; exact absurd h1 hf
        · exact ⟨j, by omega, h1, h2⟩
theorem KK_key {E : Nat → Ev} {i j : Nat} (hj : j < i) : key (E j) ∈ (KK E i).map key := by
  induction i with
  | zero => omega
  | succ i ih =>
    rw [KK]
    by_cases e : j = i
    · subst e
      by_cases hf : firstB E j = true
      · rw [if_pos hf]; simp
      · rw [if_neg hf]
        obtain ⟨q, hq, he⟩ := firstB_false (by simpa using hf)
        clear ih
        -- the first of the key
        have : ∀ m q, q ≤ m → q < j → key (E q) = key (E j) → key (E j) ∈ (KK E j).map key := by
          intro m
          induction m with
          | zero =>
            intro q hq hqj he
            have hf0 : firstB E q = true := by
              simp only [firstB, decide_eq_true_eq]
              intro p hp; omega
            exact List.mem_map.2 ⟨E q, KK_mem.2 ⟨q, hqj, hf0, rfl⟩, he⟩
          | succ m ihm =>
            intro q hq hqj he
            cases hf0 : firstB E q with
            | true => exact List.mem_map.2 ⟨E q, KK_mem.2 ⟨q, hqj, hf0, rfl⟩, he⟩
            | false =>
              obtain ⟨p, hp, hpe⟩ := firstB_false hf0
              exact ihm p (by omega) (by omega) (hpe.trans he)
        exact this q q (Nat.le_refl _) hq he
    · have := ih (by omega)
      by_cases hf : firstB E i = true
      · rw [if_pos hf, List.map_append, List.mem_append]; exact .inl this
      · rw [if_neg hf]; exact this
theorem KK_new {E : Nat → Ev} {i : Nat} (hf : firstB E i = true) : key (E i) ∉ (KK E i).map key := by
  intro h
  obtain ⟨x, hx, he⟩ := List.mem_map.1 h
  obtain ⟨j, hj, _, rfl⟩ := KK_mem.1 hx
  exact firstB_true hf j hj he
theorem KK_old {E : Nat → Ev} {i : Nat} (hf : firstB E i = false) : key (E i) ∈ (KK E i).map key := by
  obtain ⟨j, hj, he⟩ := firstB_false hf
  rw [← he]
  exact KK_key hj
theorem KK_len (E : Nat → Ev) (i : Nat) : (KK E i).length ≤ i := by
  induction i with
  | zero => simp [KK]
  | succ i ih =>
    rw [KK]
    split
    · simp; omega
    · omega
theorem KK_prefix (E : Nat → Ev) {i j : Nat} (h : i ≤ j) : ∃ t, KK E j = KK E i ++ t := by
  induction j with
  | zero =>
    obtain rfl : i = 0 := by omega
    exact ⟨[], by simp⟩
  | succ j ih =>
    by_cases e : i = j + 1
    · exact ⟨[], by rw [e]; simp⟩
    · obtain ⟨t, ht⟩ := ih (by omega)
      rw [KK]
      split
      · exact ⟨t ++ [E j], by rw [ht]; simp⟩
      · exact ⟨t, ht⟩

/-- Does event j count for the node c, s? -/
def atNode (E : Nat → Ev) (c s : ByteArray) (j : Nat) : Bool := firstB E j && sameNode c s (E j)
theorem ofNode_next (E : Nat → Ev) (c s : ByteArray) (j : Nat) : ofNode (KK E (j + 1)) c s = if atNode E c s j then ofNode (KK E j) c s ++ [E j] else ofNode (KK E j) c s := by
  rw [KK]
  cases hf : firstB E j with
  | false => simp [atNode, hf]
  | true =>
    rw [if_pos rfl]
    cases hs : sameNode c s (E j) with
    | false => rw [ofNode_other _ _ hs]; simp [atNode, hs]
    | true => rw [ofNode_same _ _ hs]; simp [atNode, hf, hs]
theorem ofNode_nil {E : Nat → Ev} {c s : ByteArray} {i : Nat} : ofNode (KK E i) c s = [] ↔ ∀ j, j < i → atNode E c s j = false := by
  induction i with
  | zero => simp [KK, ofNode]
  | succ i ih =>
    rw [ofNode_next]
    constructor
    · intro h j hj
      cases ha : atNode E c s i with
      | true => rw [ha] at h; simp at h
      | false =>
        rw [ha] at h
        by_cases e : j = i
        · rw [e]; exact ha
        · exact ih.1 (by simpa using h) j (by omega)
    · intro h
      rw [h i (by omega)]
      simpa using ih.2 (fun j hj => h j (by omega))
theorem ofNode_at {E : Nat → Ev} {c s : ByteArray} {j n : Nat} (h : atNode E c s j = true) (hj : j < n) : (ofNode (KK E n) c s)[(ofNode (KK E j) c s).length]? = some (E j) := by
  obtain ⟨t, ht⟩ := KK_prefix E (show j + 1 ≤ n by omega)
  have : ofNode (KK E n) c s = ofNode (KK E (j + 1)) c s ++ ofNode t c s := by rw [ht]; simp [ofNode]
  rw [this, ofNode_next, if_pos h]
  simp
theorem ofNode_le {E : Nat → Ev} {c s : ByteArray} {j n : Nat} (hj : j ≤ n) : (ofNode (KK E j) c s).length ≤ (ofNode (KK E n) c s).length := by
  obtain ⟨t, ht⟩ := KK_prefix E hj
  have : ofNode (KK E n) c s = ofNode (KK E j) c s ++ ofNode t c s := by rw [ht]; simp [ofNode]
  rw [this]
  simp

theorem nDep_next (E : Nat → Ev) (s : ByteArray) (j : Nat) : nDep (KK E (j + 1)) s = nDep (KK E j) s + if (firstB E j && (E j).subj.toList == s.toList) && isDep (E j) then 1 else 0 := by
  rw [KK]
  cases hf : firstB E j with
  | false => simp
  | true =>
    rw [if_pos rfl, nDep_snoc]
    cases isDep (E j) <;> cases ((E j).subj.toList == s.toList) <;> rfl
theorem nIns_next (E : Nat → Ev) (s : ByteArray) (j : Nat) : nIns (KK E (j + 1)) s = nIns (KK E j) s + if (firstB E j && (E j).subj.toList == s.toList) && isIns (E j) then 1 else 0 := by
  rw [KK]
  cases hf : firstB E j with
  | false => simp
  | true =>
    rw [if_pos rfl, nIns_snoc]
    cases isIns (E j) <;> cases ((E j).subj.toList == s.toList) <;> rfl
/-- Does event j count for the service s? -/
def atSvc (E : Nat → Ev) (s : ByteArray) (j : Nat) : Bool := firstB E j && (isSv (E j) && (E j).subj.toList == s.toList)
theorem svc_nil {E : Nat → Ev} {s : ByteArray} {i : Nat} : nDep (KK E i) s + nIns (KK E i) s = 0 ↔ ∀ j, j < i → atSvc E s j = false := by
  induction i with
  | zero => simp [KK, nDep, nIns]
  | succ i ih =>
    rw [nDep_next, nIns_next]
    have key : atSvc E s i = (((firstB E i && (E i).subj.toList == s.toList) && isDep (E i)) || ((firstB E i && (E i).subj.toList == s.toList) && isIns (E i))) := by
      have : isSv (E i) = (isDep (E i) || isIns (E i)) := rfl
      rw [atSvc, this]
      cases firstB E i <;> cases isDep (E i) <;> cases isIns (E i) <;> cases ((E i).subj.toList == s.toList) <;> rfl
    constructor
    · intro h j hj
      by_cases e : j = i
      · rw [e, key]
        cases h1 : ((firstB E i && (E i).subj.toList == s.toList) && isDep (E i)) with
        | true => rw [h1, if_pos rfl] at h; omega
        | false =>
          cases h2 : ((firstB E i && (E i).subj.toList == s.toList) && isIns (E i)) with
          | true => rw [h2, if_pos rfl] at h; omega
          | false => rfl
      · exact ih.1 (by omega) j (by omega)
    · intro h
      have h0 := ih.2 (fun j hj => h j (by omega))
      have h1 := h i (by omega)
      rw [key, Bool.or_eq_false_iff] at h1
      rw [h1.1, h1.2]
      simpa using h0

/-! The counts, round by round. -/
theorem len_next (E : Nat → Ev) (i : Nat) : (KK E (i + 1)).length = (KK E i).length + if firstB E i then 1 else 0 := by
  rw [KK]; split <;> simp
theorem nd_next (E : Nat → Ev) (i : Nat) : (KK E (i + 1)).countP isNd = (KK E i).countP isNd + if firstB E i && isNd (E i) then 1 else 0 := by
  rw [KK]
  cases hf : firstB E i with
  | false => simp
  | true => rw [if_pos rfl, List.countP_append]; simp [List.countP_cons]
theorem names_next (E : Nat → Ev) (i : Nat) : nNames (KK E (i + 1)) = nNames (KK E i) + if (firstB E i && isNd (E i)) && (ofNode (KK E i) (E i).clu (E i).subj).isEmpty then 1 else 0 := by
  rw [KK]
  cases hf : firstB E i with
  | false => simp
  | true =>
    rw [if_pos rfl, nNames_snoc]
    simp only [Bool.true_and]
    split <;> rfl
theorem ex_next (E : Nat → Ev) (i : Nat) : nEx (KK E (i + 1)) = nEx (KK E i) + if firstB E i && isEx (E i) then 1 else 0 := by
  rw [KK]
  cases hf : firstB E i with
  | false => simp
  | true => rw [if_pos rfl, nEx_snoc]; simp
theorem svcs_next (E : Nat → Ev) (i : Nat) : nSvcs (KK E (i + 1)) = nSvcs (KK E i) + if (firstB E i && isSv (E i)) && decide (nDep (KK E i) (E i).subj + nIns (KK E i) (E i).subj = 0) then 1 else 0 := by
  rw [KK]
  cases hf : firstB E i with
  | false => simp
  | true =>
    rw [if_pos rfl, nSvcs_snoc]
    cases hs : isSv (E i) with
    | false => simp
    | true =>
      simp only [if_pos, Bool.true_and, nextN, decide_eq_true_eq]
      split <;> rfl
end Go.Proofs.Qxb6603530a
