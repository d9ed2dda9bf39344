import Derived.Test.Qxb6603530aMath
namespace Go.Proofs.Qxb6603530a

theorem nd_le (E : Nat → Ev) (i : Nat) : (KK E i).countP isNd ≤ i := Nat.le_trans List.countP_le_length (KK_len E i)
theorem ex_le (E : Nat → Ev) (i : Nat) : nEx (KK E i) ≤ i := Nat.le_trans List.countP_le_length (KK_len E i)
theorem dep_le (E : Nat → Ev) (s : ByteArray) (i : Nat) : nDep (KK E i) s ≤ i := Nat.le_trans List.countP_le_length (KK_len E i)
theorem ins_le (E : Nat → Ev) (s : ByteArray) (i : Nat) : nIns (KK E i) s ≤ i := Nat.le_trans List.countP_le_length (KK_len E i)
theorem names_le (E : Nat → Ev) (i : Nat) : nNames (KK E i) ≤ i := by
  induction i with
  | zero => simp [KK, nNames, nNamesR]
  | succ i ih => rw [names_next]; split <;> omega
theorem svcs_le (E : Nat → Ev) (i : Nat) : nSvcs (KK E i) ≤ i := by
  induction i with
  | zero => simp [KK, nSvcs, nSvcsR]
  | succ i ih => rw [svcs_next]; split <;> omega

/-- The five counts behind event i. -/
structure Cnt (E : Nat → Ev) (i : Nat) (A B C D F : Nat) : Prop where
  a : (KK E i).length = A
  b : (KK E i).countP isNd = B
  c : nNames (KK E i) = C
  d : nEx (KK E i) = D
  f : nSvcs (KK E i) = F

theorem Cnt.skip {E : Nat → Ev} {i A B C D F : Nat} (h : Cnt E i A B C D F) (hf : firstB E i = false) : Cnt E (i + 1) A B C D F :=
  ⟨by rw [len_next, hf, h.a]; rfl, by rw [nd_next, hf, h.b]; rfl, by rw [names_next, hf, h.c]; rfl, by rw [ex_next, hf, h.d]; rfl, by rw [svcs_next, hf, h.f]; rfl⟩
theorem nd_kinds {e : Ev} (h : isNd e = true) : isEx e = false ∧ isSv e = false := by
  simp only [isNd, Bool.or_eq_true, beq_iff_eq] at h
  rcases h with h | h <;> simp [isEx, isSv, h]
theorem ex_kinds {e : Ev} (h : isEx e = true) : isNd e = false ∧ isSv e = false := by
  simp only [isEx, beq_iff_eq] at h
  simp [isNd, isSv, h]
theorem Cnt.node {E : Nat → Ev} {i A B C D F : Nat} (h : Cnt E i A B C D F) (hf : firstB E i = true) (hn : isNd (E i) = true) (he : ofNode (KK E i) (E i).clu (E i).subj = []) : Cnt E (i + 1) (A + 1) (B + 1) (C + 1) D F :=
  ⟨by rw [len_next, hf, h.a]; rfl, by rw [nd_next, hf, hn, h.b]; rfl, by rw [names_next, hf, hn, he, h.c]; rfl, by rw [ex_next, hf, (nd_kinds hn).1, h.d]; rfl, by rw [svcs_next, hf, (nd_kinds hn).2, h.f]; rfl⟩
theorem Cnt.nodeOld {E : Nat → Ev} {i A B C D F : Nat} (h : Cnt E i A B C D F) (hf : firstB E i = true) (hn : isNd (E i) = true) (he : ofNode (KK E i) (E i).clu (E i).subj ≠ []) : Cnt E (i + 1) (A + 1) (B + 1) C D F := by
  have : (ofNode (KK E i) (E i).clu (E i).subj).isEmpty = false := by
    cases hh : ofNode (KK E i) (E i).clu (E i).subj with
    | nil => exact absurd hh he
    | cons => rfl
  exact ⟨by rw [len_next, hf, h.a]; rfl, by rw [nd_next, hf, hn, h.b]; rfl, by rw [names_next, hf, hn, this, h.c]; rfl, by rw [ex_next, hf, (nd_kinds hn).1, h.d]; rfl, by rw [svcs_next, hf, (nd_kinds hn).2, h.f]; rfl⟩
theorem Cnt.exec {E : Nat → Ev} {i A B C D F : Nat} (h : Cnt E i A B C D F) (hf : firstB E i = true) (he : isEx (E i) = true) : Cnt E (i + 1) (A + 1) B C (D + 1) F :=
  ⟨by rw [len_next, hf, h.a]; rfl, by rw [nd_next, hf, (ex_kinds he).1, h.b]; rfl, by rw [names_next, hf, (ex_kinds he).1, h.c]; rfl, by rw [ex_next, hf, he, h.d]; rfl, by rw [svcs_next, hf, (ex_kinds he).2, h.f]; rfl⟩
theorem Cnt.svc {E : Nat → Ev} {i A B C D F : Nat} (h : Cnt E i A B C D F) (hf : firstB E i = true) (hn : isNd (E i) = false) (he : isEx (E i) = false) (hs : isSv (E i) = true) (h0 : nDep (KK E i) (E i).subj + nIns (KK E i) (E i).subj = 0) : Cnt E (i + 1) (A + 1) B C D (F + 1) :=
  ⟨by rw [len_next, hf, h.a]; rfl, by rw [nd_next, hf, hn, h.b]; rfl, by rw [names_next, hf, hn, h.c]; rfl, by rw [ex_next, hf, he, h.d]; rfl, by rw [svcs_next, hf, hs, h.f, h0]; rfl⟩
theorem Cnt.svcOld {E : Nat → Ev} {i A B C D F : Nat} (h : Cnt E i A B C D F) (hf : firstB E i = true) (hn : isNd (E i) = false) (he : isEx (E i) = false) (hs : isSv (E i) = true) (h0 : nDep (KK E i) (E i).subj + nIns (KK E i) (E i).subj ≠ 0) : Cnt E (i + 1) (A + 1) B C D F :=
  ⟨by rw [len_next, hf, h.a]; rfl, by rw [nd_next, hf, hn, h.b]; rfl, by rw [names_next, hf, hn, h.c]; rfl, by rw [ex_next, hf, he, h.d]; rfl, by rw [svcs_next, hf, hs, h.f, decide_eq_false h0]; rfl⟩
theorem Cnt.none {E : Nat → Ev} {i A B C D F : Nat} (h : Cnt E i A B C D F) (hf : firstB E i = true) (hn : isNd (E i) = false) (he : isEx (E i) = false) (hs : isSv (E i) = false) : Cnt E (i + 1) (A + 1) B C D F :=
  ⟨by rw [len_next, hf, h.a]; rfl, by rw [nd_next, hf, hn, h.b]; rfl, by rw [names_next, hf, hn, h.c]; rfl, by rw [ex_next, hf, he, h.d]; rfl, by rw [svcs_next, hf, hs, h.f]; rfl⟩
theorem Cnt.le {E : Nat → Ev} {i A B C D F : Nat} (h : Cnt E i A B C D F) : A ≤ i ∧ B ≤ i ∧ C ≤ i ∧ D ≤ i ∧ F ≤ i := by
  rw [← h.a, ← h.b, ← h.c, ← h.d, ← h.f]
  exact ⟨KK_len E i, nd_le E i, names_le E i, ex_le E i, svcs_le E i⟩
end Go.Proofs.Qxb6603530a
