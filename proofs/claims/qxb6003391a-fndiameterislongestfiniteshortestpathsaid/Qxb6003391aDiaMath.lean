/- Shortest paths, plainly: no Go in sight. -/
namespace Qxb6003391aDiaMath

/-- A walk of just d edges. -/
def Wk (E : Nat → Nat → Prop) : Nat → Nat → Nat → Prop
  | 0, s, t => s = t
  | d + 1, s, t => ∃ m, Wk E d s m ∧ E m t

theorem Wk.trans {E : Nat → Nat → Prop} {a b : Nat} {s m t : Nat} (h : Wk E a s m) (k : Wk E b m t) : Wk E (a + b) s t := by
  induction b generalizing t with
  | zero => cases k; exact h
  | succ b ih =>
    obtain ⟨x, hx, hE⟩ := k
    exact ⟨x, ih hx, hE⟩

/-- x is the length of a shortest walk. -/
def SD (E : Nat → Nat → Prop) (s t x : Nat) : Prop := Wk E x s t ∧ ∀ y, Wk E y s t → x ≤ y

theorem SD.unique {E : Nat → Nat → Prop} {s t x y : Nat} (h : SD E s t x) (k : SD E s t y) : x = y :=
  Nat.le_antisymm (h.2 _ k.1) (k.2 _ h.1)

/-- d is the greatest of the finite shortest lengths, over sources below s. -/
def Dia (n : Nat) (E : Nat → Nat → Prop) (s : Nat) (d : Int) : Prop :=
  0 ≤ d ∧ (∀ s' t x, s' < s → t < n → SD E s' t x → (x : Int) ≤ d) ∧ (d = 0 ∨ ∃ s' t x, s' < s ∧ t < n ∧ SD E s' t x ∧ (x : Int) = d)

theorem Dia.unique {n : Nat} {E : Nat → Nat → Prop} {s : Nat} {d d' : Int} (h : Dia n E s d) (k : Dia n E s d') : d = d' := by
  obtain ⟨h0, h1, h2⟩ := h
  obtain ⟨k0, k1, k2⟩ := k
  have a : d ≤ d' := by
    rcases h2 with rfl | ⟨s', t, x, hs, ht, hsd, rfl⟩
    · exact k0
    · exact k1 s' t x hs ht hsd
  have b : d' ≤ d := by
    rcases k2 with rfl | ⟨s', t, x, hs, ht, hsd, rfl⟩
    · exact h0
    · exact h1 s' t x hs ht hsd
  omega

def upd (D : Nat → Int) (i : Nat) (x : Int) : Nat → Int := fun j => if j = i then x else D j
theorem upd_same (D : Nat → Int) (i : Nat) (x : Int) : upd D i x i = x := by simp [upd]
theorem upd_ne (D : Nat → Int) {i j : Nat} (x : Int) (h : j ≠ i) : upd D i x j = D j := by simp [upd, h]

/-- How many of the first n are not yet met. -/
def und (D : Nat → Int) : Nat → Nat
  | 0 => 0
  | n + 1 => und D n + if D n < 0 then 1 else 0

theorem und_upd_ge (D : Nat → Int) (i : Nat) (x : Int) (n : Nat) (h : n ≤ i) : und (upd D i x) n = und D n := by
  induction n with
  | zero => rfl
  | succ n ih => simp only [und, ih (by omega), upd_ne D x (show n ≠ i by omega)]

theorem und_upd (D : Nat → Int) (i : Nat) (x : Int) (n : Nat) (h : i < n) (hD : D i < 0) (hx : 0 ≤ x) : und (upd D i x) n + 1 = und D n := by
  induction n with
  | zero => omega
  | succ n ih =>
    simp only [und]
    by_cases e : n = i
    · subst e
      rw [und_upd_ge D n x n (Nat.le_refl _), upd_same, if_neg (by omega), if_pos hD]
    · rw [upd_ne D x e]
      have := ih (by omega)
      omega

theorem und_le (D : Nat → Int) (n : Nat) : und D n ≤ n := by
  induction n with
  | zero => exact Nat.le_refl _
  | succ n ih => simp only [und]; split <;> omega

/-- All but node s unmet. -/
theorem und_start (s : Nat) (n : Nat) (h : s < n) (D : Nat → Int) (hs : D s = 0) (hD : ∀ v, v ≠ s → D v = -1) : und D n + 1 = n := by
  have hlt : ∀ k, k ≤ s → und D k = k := by
    intro k hk
    induction k with
    | zero => rfl
    | succ k ih => simp only [und]; rw [ih (by omega), hD k (by omega)]; simp
  have hge : ∀ k, s < k → und D k + 1 = k := by
    intro k hk
    induction k with
    | zero => omega
    | succ k ih =>
      simp only [und]
      by_cases e : k = s
      · subst e; rw [hlt k (Nat.le_refl _), hs]; simp
      · rw [hD k e]
        have := ih (by omega)
        simp; omega
  exact hge n h

/-- The search from s: what holds at every round's head and inside a round. -/
structure BFS (n : Nat) (E : Nat → Nat → Prop) (s : Nat) (D : Nat → Int) (q : List Nat) : Prop where
  start : D s = 0
  sound : ∀ v, v < n → 0 ≤ D v → Wk E (D v).toNat s v
  inq : ∀ v, v ∈ q → v < n ∧ 0 ≤ D v
  sorted : q.Pairwise (fun a b => D a ≤ D b)
  head : ∀ h r, q = h :: r → ∀ v, v < n → 0 ≤ D v → D v ≤ D h + 1
  done : ∀ v, v < n → 0 ≤ D v → v ∉ q → ∀ u, E v u → 0 ≤ D u ∧ D u ≤ D v + 1
  small : ∀ v, v < n → 0 ≤ D v → D v + 1 + und D n ≤ n

theorem BFS.begin {n : Nat} {E : Nat → Nat → Prop} {s : Nat} (hs : s < n) {D : Nat → Int} (h0 : D s = 0) (h1 : ∀ v, v ≠ s → D v = -1) : BFS n E s D [s] := by
  have only : ∀ v, 0 ≤ D v → v = s := fun v hv => Classical.byContradiction fun e => by have := h1 v e; omega
  refine ⟨h0, ?_, ?_, by simp, ?_, ?_, ?_⟩
  · intro v _ hv; have := only v hv; subst this; rw [h0]; rfl
  · intro v hv; simp at hv; subst hv; exact ⟨hs, by omega⟩
  · intro h r e v _ hv; have := only v hv; subst this; simp at e; obtain ⟨rfl, _⟩ := e; omega
  · intro v _ hv hn; have := only v hv; subst this; simp at hn
  · intro v _ hv; have := only v hv; subst this; have := und_start v n hs D h0 h1; omega

/-- A neighbour is met for the first time. -/
theorem BFS.meet {n : Nat} {E : Nat → Nat → Prop} {s : Nat} {D : Nat → Int} {m : Nat} {r : List Nat} (h : BFS n E s D (m :: r)) {u : Nat} (hu : u < n) (hE : E m u) (hD : D u < 0) :
    BFS n E s (upd D u (D m + 1)) (m :: r ++ [u]) := by
  obtain ⟨hm, hm0⟩ := h.inq m (by simp)
  have keep : ∀ v, 0 ≤ D v → upd D u (D m + 1) v = D v := fun v hv => upd_ne D _ (fun e => by subst e; omega)
  have old : ∀ v, 0 ≤ upd D u (D m + 1) v → v ≠ u → 0 ≤ D v := fun v hv e => by rwa [upd_ne D _ e] at hv
  refine ⟨?_, ?_, ?_, ?_, ?_, ?_, ?_⟩
  · rw [keep s (by rw [h.start]; exact Int.le_refl _)]; exact h.start
  · intro v hv hv0
    by_cases e : v = u
    · subst e
      rw [upd_same, show (D m + 1).toNat = (D m).toNat + 1 by omega]
      exact ⟨m, h.sound m hm hm0, hE⟩
    · have := old v hv0 e
      rw [keep v this]; exact h.sound v hv this
  · intro v hv
    rw [List.mem_append] at hv
    rcases hv with hv | hv
    · obtain ⟨a, b⟩ := h.inq v hv; exact ⟨a, by rw [keep v b]; exact b⟩
    · simp at hv; subst hv; exact ⟨hu, by rw [upd_same]; omega⟩
  · rw [List.pairwise_append]
    refine ⟨?_, by simp, ?_⟩
    · refine h.sorted.imp_of_mem (fun ha hb hab => ?_)
      rw [keep _ (h.inq _ ha).2, keep _ (h.inq _ hb).2]; exact hab
    · intro a ha b hb
      simp at hb; subst hb
      rw [upd_same, keep _ (h.inq _ ha).2]
      exact h.head m r rfl a (h.inq a ha).1 (h.inq a ha).2
  · intro h' r' e v hv hv0
    simp only [List.cons_append, List.cons.injEq] at e
    obtain ⟨rfl, _⟩ := e
    rw [keep m hm0]
    by_cases e : v = u
    · subst e; rw [upd_same]; omega
    · have := old v hv0 e
      rw [keep v this]; exact h.head m r rfl v hv this
  · intro v hv hv0 hn x hx
    rw [List.mem_append] at hn
    have e : v ≠ u := fun e => hn (.inr (by simp [e]))
    have hv1 := old v hv0 e
    obtain ⟨a, b⟩ := h.done v hv hv1 (fun hm => hn (.inl hm)) x hx
    rw [keep v hv1, keep x a]; exact ⟨a, b⟩
  · intro v hv hv0
    have hund := und_upd D u (D m + 1) n hu hD (by omega)
    by_cases e : v = u
    · subst e; rw [upd_same]; have := h.small m hm hm0; omega
    · have hv1 := old v hv0 e
      rw [keep v hv1]; have := h.small v hv hv1; omega

/-- The head's neighbours are all met: it is struck. -/
theorem BFS.pop {n : Nat} {E : Nat → Nat → Prop} {s : Nat} {D : Nat → Int} {m : Nat} {r : List Nat} (h : BFS n E s D (m :: r)) (hm : ∀ u, E m u → 0 ≤ D u ∧ D u ≤ D m + 1) : BFS n E s D r := by
  refine ⟨h.start, h.sound, fun v hv => h.inq v (by simp [hv]), (List.pairwise_cons.1 h.sorted).2, ?_, ?_, h.small⟩
  · intro h' r' e v hv hv0
    subst e
    have a := (List.pairwise_cons.1 h.sorted).1 h' (by simp)
    have b := h.head m _ rfl v hv hv0
    omega
  · intro v hv hv0 hn u hu
    by_cases e : v = m
    · subst e; exact hm u hu
    · exact h.done v hv hv0 (by simp [e, hn]) u hu

/-- The queue is empty: what was met is all that can be reached, at its distance. -/
theorem BFS.reached {n : Nat} {E : Nat → Nat → Prop} (hEn : ∀ u v, E u v → u < n ∧ v < n) {s : Nat} (hs : s < n) {D : Nat → Int} (h : BFS n E s D []) (k t : Nat) (hw : Wk E k s t) : t < n ∧ 0 ≤ D t ∧ D t ≤ k := by
  induction k generalizing t with
  | zero => cases hw; rw [h.start]; exact ⟨hs, Int.le_refl _, Int.le_refl _⟩
  | succ k ih =>
    obtain ⟨m, hm, hE⟩ := hw
    obtain ⟨a, b, c⟩ := ih m hm
    obtain ⟨d, e⟩ := h.done m a b (by simp) t hE
    exact ⟨(hEn _ _ hE).2, d, by omega⟩

theorem BFS.dist {n : Nat} {E : Nat → Nat → Prop} (hEn : ∀ u v, E u v → u < n ∧ v < n) {s : Nat} (hs : s < n) {D : Nat → Int} (h : BFS n E s D []) {t : Nat} (ht : t < n) (h0 : 0 ≤ D t) : SD E s t (D t).toNat :=
  ⟨h.sound t ht h0, fun y hy => by have := h.reached hEn hs y t hy; omega⟩

/-- What the running maximum d has seen: d0 from earlier sources, and all that was met from this one. -/
structure Seen (n : Nat) (D : Nat → Int) (d0 d : Int) : Prop where
  ge : d0 ≤ d
  all : ∀ v, v < n → 0 ≤ D v → D v ≤ d
  some : d = d0 ∨ ∃ v, v < n ∧ 0 ≤ D v ∧ D v = d

theorem Seen.begin {n : Nat} {s : Nat} {D : Nat → Int} (h0 : D s = 0) (h1 : ∀ v, v ≠ s → D v = -1) {d : Int} (hd : 0 ≤ d) : Seen n D d d := by
  refine ⟨Int.le_refl _, fun v _ hv => ?_, .inl rfl⟩
  have : v = s := Classical.byContradiction fun e => by have := h1 v e; omega
  subst this; omega

theorem Seen.meet {n : Nat} {D : Nat → Int} {d0 d : Int} (h : Seen n D d0 d) {u : Nat} (hu : u < n) (hD : D u < 0) {x : Int} (hx : 0 ≤ x) : Seen n (upd D u x) d0 (max d x) := by
  refine ⟨by have := h.ge; omega, fun v hv hv0 => ?_, ?_⟩
  · by_cases e : v = u
    · subst e; rw [upd_same]; omega
    · rw [upd_ne D _ e] at hv0 ⊢; have := h.all v hv hv0; omega
  · by_cases hc : d < x
    · refine .inr ⟨u, hu, ?_, ?_⟩ <;> rw [upd_same] <;> omega
    · rw [show max d x = d by omega]
      rcases h.some with e | ⟨v, hv, hv0, e⟩
      · exact .inl e
      · refine .inr ⟨v, hv, ?_, ?_⟩ <;> rw [upd_ne D _ (fun e' => by subst e'; omega)] <;> assumption

theorem Seen.finish {n : Nat} {E : Nat → Nat → Prop} (hEn : ∀ u v, E u v → u < n ∧ v < n) {s : Nat} (hs : s < n) {D : Nat → Int} (h : BFS n E s D []) {d0 d : Int} (hd : Dia n E s d0) (hse : Seen n D d0 d) : Dia n E (s + 1) d := by
  obtain ⟨a0, a1, a2⟩ := hd
  refine ⟨by have := hse.ge; omega, ?_, ?_⟩
  · intro s' t x hs' ht hsd
    by_cases e : s' = s
    · subst e
      obtain ⟨_, b, c⟩ := h.reached hEn hs x t hsd.1
      have hdist := h.dist hEn hs ht b
      have := hsd.unique hdist
      have := hse.all t ht b
      omega
    · have := a1 s' t x (by omega) ht hsd
      have := hse.ge
      omega
  · rcases hse.some with e | ⟨v, hv, hv0, e⟩
    · subst e
      rcases a2 with e | ⟨s', t, x, p, q, r, u⟩
      · exact .inl e
      · exact .inr ⟨s', t, x, by omega, q, r, u⟩
    · exact .inr ⟨s, v, (D v).toNat, by omega, hv, h.dist hEn hs hv hv0, by omega⟩

theorem Dia.bound {n : Nat} {E : Nat → Nat → Prop} {d : Int} (h : Dia n E n d) (hd : d ≤ 32) : ∀ s t x, s < n → t < n → SD E s t x → x ≤ 32 := fun s t x hs ht hsd => by
  have := h.2.1 s t x hs ht hsd; omega

theorem Dia.zero (n : Nat) (E : Nat → Nat → Prop) : Dia n E 0 0 := ⟨Int.le_refl _, fun _ _ _ h => by omega, .inl rfl⟩

/-! ### Floyd and Warshall -/

/-- Reached in x by nodes between that lie below k. -/
def Pk (E : Nat → Nat → Prop) : Nat → Nat → Nat → Nat → Prop
  | 0, x, i, j => (x = 0 ∧ i = j) ∨ (x = 1 ∧ E i j)
  | k + 1, x, i, j => Pk E k x i j ∨ ∃ a b, Pk E k a i k ∧ Pk E k b k j ∧ x = a + b

theorem Pk.join {E : Nat → Nat → Prop} (k : Nat) : ∀ (a b i m j : Nat), m < k → Pk E k a i m → Pk E k b m j → ∃ x, x ≤ a + b ∧ Pk E k x i j := by
  induction k with
  | zero => intro a b i m j hm; omega
  | succ k ih =>
    intro a b i m j hm ha hb
    by_cases e : m = k
    · subst e
      have ha' : ∃ a', a' ≤ a ∧ Pk E m a' i m := by
        rcases ha with ha | ⟨x, y, hx, _, rfl⟩
        · exact ⟨a, Nat.le_refl _, ha⟩
        · exact ⟨x, by omega, hx⟩
      have hb' : ∃ b', b' ≤ b ∧ Pk E m b' m j := by
        rcases hb with hb | ⟨x, y, _, hy, rfl⟩
        · exact ⟨b, Nat.le_refl _, hb⟩
        · exact ⟨y, by omega, hy⟩
      obtain ⟨a', la, ha'⟩ := ha'
      obtain ⟨b', lb, hb'⟩ := hb'
      exact ⟨a' + b', by omega, .inr ⟨a', b', ha', hb', rfl⟩⟩
    · have hmk : m < k := by omega
      rcases ha with ha | ⟨a1, a2, ha1, ha2, rfl⟩
      · rcases hb with hb | ⟨b1, b2, hb1, hb2, rfl⟩
        · obtain ⟨x, lx, hx⟩ := ih a b i m j hmk ha hb
          exact ⟨x, lx, .inl hx⟩
        · obtain ⟨x, lx, hx⟩ := ih a b1 i m k hmk ha hb1
          exact ⟨x + b2, by omega, .inr ⟨x, b2, hx, hb2, rfl⟩⟩
      · rcases hb with hb | ⟨b1, b2, hb1, hb2, rfl⟩
        · obtain ⟨x, lx, hx⟩ := ih a2 b k m j hmk ha2 hb
          exact ⟨a1 + x, by omega, .inr ⟨a1, x, ha1, hx, rfl⟩⟩
        · exact ⟨a1 + b2, by omega, .inr ⟨a1, b2, ha1, hb2, rfl⟩⟩

theorem Pk.of_zero {E : Nat → Nat → Prop} (k x i j : Nat) (h : Pk E 0 x i j) : Pk E k x i j := by
  induction k with
  | zero => exact h
  | succ k ih => exact .inl ih

theorem Pk.of_walk {E : Nat → Nat → Prop} {n : Nat} (hEn : ∀ u v, E u v → u < n ∧ v < n) (d i j : Nat) (h : Wk E d i j) : ∃ x, x ≤ d ∧ Pk E n x i j := by
  induction d generalizing j with
  | zero => cases h; exact ⟨0, Nat.le_refl _, Pk.of_zero n 0 i i (.inl ⟨rfl, rfl⟩)⟩
  | succ d ih =>
    obtain ⟨m, hm, hE⟩ := h
    obtain ⟨x, lx, hx⟩ := ih m hm
    obtain ⟨y, ly, hy⟩ := Pk.join n x 1 i m j (hEn _ _ hE).1 hx (Pk.of_zero n 1 m j (.inr ⟨rfl, hE⟩))
    exact ⟨y, by omega, hy⟩

def inf : Int := 1048576

/-- What each entry says. -/
def Ent (E : Nat → Nat → Prop) (n : Nat) (D : Nat → Nat → Int) : Prop := ∀ i j, i < n → j < n → 0 ≤ D i j ∧ D i j ≤ inf ∧ (D i j < inf → Wk E (D i j).toNat i j)
/-- Up to place (i0, j0) of the round k. -/
def FW (E : Nat → Nat → Prop) (n : Nat) (D : Nat → Nat → Int) (k i0 j0 : Nat) : Prop :=
  (∀ i j, i < n → j < n → ∀ x, Pk E k x i j → D i j ≤ x) ∧ (∀ i j, i < n → j < n → (i < i0 ∨ (i = i0 ∧ j < j0)) → ∀ x, Pk E (k + 1) x i j → D i j ≤ x)

def upd2 (D : Nat → Nat → Int) (i j : Nat) (x : Int) : Nat → Nat → Int := fun a b => if a = i ∧ b = j then x else D a b

theorem FW.relax {E : Nat → Nat → Prop} {n : Nat} {D : Nat → Nat → Int} {k i j : Nat} (hk : k < n) (hi : i < n) (hj : j < n) (he : Ent E n D) (h : FW E n D k i j) (hlt : D i k + D k j < D i j) :
    Ent E n (upd2 D i j (D i k + D k j)) ∧ FW E n (upd2 D i j (D i k + D k j)) k i (j + 1) := by
  obtain ⟨h1, h2⟩ := h
  have le : ∀ a b, upd2 D i j (D i k + D k j) a b ≤ D a b := by
    intro a b; unfold upd2; split
    · next e => obtain ⟨rfl, rfl⟩ := e; omega
    · exact Int.le_refl _
  refine ⟨?_, ?_, ?_⟩
  · intro a b ha hb
    unfold upd2; split
    · next e =>
      obtain ⟨rfl, rfl⟩ := e
      obtain ⟨p1, p2, p3⟩ := he a k ha hk
      obtain ⟨q1, q2, q3⟩ := he k b hk hb
      obtain ⟨r1, r2, r3⟩ := he a b ha hb
      refine ⟨by omega, by omega, fun _ => ?_⟩
      rw [show (D a k + D k b).toNat = (D a k).toNat + (D k b).toNat by omega]
      exact (p3 (by omega)).trans (q3 (by omega))
    · exact he a b ha hb
  · intro a b ha hb x hx; exact Int.le_trans (le a b) (h1 a b ha hb x hx)
  · intro a b ha hb hab x hx
    by_cases e : a = i ∧ b = j
    · obtain ⟨rfl, rfl⟩ := e
      rcases hx with hx | ⟨y, z, hy, hz, rfl⟩
      · exact Int.le_trans (le a b) (h1 a b ha hb x hx)
      · have := h1 a k ha hk y hy
        have := h1 k b hk hb z hz
        have : upd2 D a b (D a k + D k b) a b = D a k + D k b := by simp [upd2]
        omega
    · exact Int.le_trans (le a b) (h2 a b ha hb (by omega) x hx)

theorem FW.keep {E : Nat → Nat → Prop} {n : Nat} {D : Nat → Nat → Int} {k i j : Nat} (hk : k < n) (hi : i < n) (hj : j < n) (h : FW E n D k i j) (hge : ¬ D i k + D k j < D i j) : FW E n D k i (j + 1) := by
  obtain ⟨h1, h2⟩ := h
  refine ⟨h1, ?_⟩
  intro a b ha hb hab x hx
  by_cases e : a = i ∧ b = j
  · obtain ⟨rfl, rfl⟩ := e
    rcases hx with hx | ⟨y, z, hy, hz, rfl⟩
    · exact h1 a b ha hb x hx
    · have := h1 a k ha hk y hy
      have := h1 k b hk hb z hz
      omega
  · exact h2 a b ha hb (by omega) x hx

theorem FW.row {E : Nat → Nat → Prop} {n : Nat} {D : Nat → Nat → Int} {k i : Nat} (h : FW E n D k i n) : FW E n D k (i + 1) 0 :=
  ⟨h.1, fun a b ha hb hab x hx => h.2 a b ha hb (by omega) x hx⟩
theorem FW.phase {E : Nat → Nat → Prop} {n : Nat} {D : Nat → Nat → Int} {k : Nat} (h : FW E n D k n 0) : FW E n D (k + 1) 0 0 :=
  ⟨fun a b ha hb x hx => h.2 a b ha hb (.inl ha) x hx, fun _ _ _ _ hab => by omega⟩

/-- What the table holds behind all rounds. -/
theorem FW.dist {E : Nat → Nat → Prop} {n : Nat} (hEn : ∀ u v, E u v → u < n ∧ v < n) {D : Nat → Nat → Int} (he : Ent E n D) (h : FW E n D n 0 0) {i j : Nat} (hi : i < n) (hj : j < n) (hlt : D i j < inf) : SD E i j (D i j).toNat := by
  refine ⟨(he i j hi hj).2.2 hlt, fun y hy => ?_⟩
  obtain ⟨x, lx, hx⟩ := Pk.of_walk hEn y i j hy
  have := h.1 i j hi hj x hx
  omega

/-- The greatest finite entry up to place (i0, j0). -/
def Most (n : Nat) (D : Nat → Nat → Int) (i0 j0 : Nat) (m : Int) : Prop :=
  0 ≤ m ∧ (∀ i j, i < n → j < n → (i < i0 ∨ (i = i0 ∧ j < j0)) → D i j < inf → D i j ≤ m) ∧ (m = 0 ∨ ∃ i j, i < n ∧ j < n ∧ D i j < inf ∧ D i j = m)

theorem Most.start (n : Nat) (D : Nat → Nat → Int) : Most n D 0 0 0 := ⟨Int.le_refl _, fun _ _ _ _ h => by omega, .inl rfl⟩
theorem Most.take {n : Nat} {D : Nat → Nat → Int} {i j : Nat} {m : Int} (h : Most n D i j m) (hi : i < n) (hj : j < n) (hlt : D i j < inf) (hm : m < D i j) : Most n D i (j + 1) (D i j) := by
  obtain ⟨h0, h1, _⟩ := h
  refine ⟨by omega, fun a b ha hb hab hl => ?_, .inr ⟨i, j, hi, hj, hlt, rfl⟩⟩
  by_cases e : a = i ∧ b = j
  · obtain ⟨rfl, rfl⟩ := e; exact Int.le_refl _
  · have := h1 a b ha hb (by omega) hl; omega
theorem Most.pass {n : Nat} {D : Nat → Nat → Int} {i j : Nat} {m : Int} (h : Most n D i j m) (hn : ¬ (D i j < inf ∧ m < D i j)) : Most n D i (j + 1) m := by
  obtain ⟨h0, h1, h2⟩ := h
  refine ⟨h0, fun a b ha hb hab hl => ?_, h2⟩
  by_cases e : a = i ∧ b = j
  · obtain ⟨rfl, rfl⟩ := e; omega
  · exact h1 a b ha hb (by omega) hl
theorem Most.row {n : Nat} {D : Nat → Nat → Int} {i : Nat} {m : Int} (h : Most n D i n m) : Most n D (i + 1) 0 m :=
  ⟨h.1, fun a b ha hb hab hl => h.2.1 a b ha hb (by omega) hl, h.2.2⟩

theorem Most.dia {E : Nat → Nat → Prop} {n : Nat} (hEn : ∀ u v, E u v → u < n ∧ v < n) {D : Nat → Nat → Int} (he : Ent E n D) (h : FW E n D n 0 0) {m : Int} (hm : Most n D n 0 m) (hB : ∀ s t x, s < n → t < n → SD E s t x → x ≤ 32) : Dia n E n m := by
  obtain ⟨h0, h1, h2⟩ := hm
  refine ⟨h0, fun s t x hs ht hsd => ?_, ?_⟩
  · obtain ⟨y, ly, hy⟩ := Pk.of_walk hEn x s t hsd.1
    have hle := h.1 s t hs ht y hy
    by_cases hlt : D s t < inf
    · have := (FW.dist hEn he h hs ht hlt).unique hsd
      have := h1 s t hs ht (.inl hs) hlt
      have := (he s t hs ht).1
      omega
    · exfalso
      have := hB s t x hs ht hsd
      simp only [inf] at hlt
      omega
  · rcases h2 with h2 | ⟨i, j, hi, hj, hlt, e⟩
    · exact .inl h2
    · exact .inr ⟨i, j, (D i j).toNat, hi, hj, FW.dist hEn he h hi hj hlt, by have := (he i j hi hj).1; omega⟩

end Qxb6003391aDiaMath
