import Derived.Test.Qxb6003391aDia2
import Derived.Deep.LoopGhost
namespace Go.Proofs.Qxb6003391a.Dia
open Go.ChangeShapes Go.WideShapes Go.ChangeAt Go.RowKit
open Qxb6003391aDiaMath

/-- The links as a relation. -/
def Ed (F T : Nat → Nat) (len : Nat) (u v : Nat) : Prop := ∃ i, i < len ∧ F i = u ∧ T i = v

theorem mem_adj (F T : Nat → Nat) (u v : Nat) : ∀ k, v ∈ adj F T u k ↔ Ed F T k u v := by
  intro k
  induction k with
  | zero => simp [adj, Ed]
  | succ k ih =>
    unfold adj
    have key : Ed F T (k + 1) u v ↔ Ed F T k u v ∨ (F k = u ∧ T k = v) := by
      constructor
      · rintro ⟨i, hi, h1, h2⟩
        by_cases e : i = k
        · subst e; exact .inr ⟨h1, h2⟩
        · exact .inl ⟨i, by omega, h1, h2⟩
      · rintro (⟨i, hi, h⟩ | h)
        · exact ⟨i, by omega, h⟩
        · exact ⟨k, by omega, h⟩
    rw [key]
    split
    · next e => rw [List.mem_append, ih]; simp [e, eq_comm]
    · next e => rw [ih]; simp [e]

def nb (F T : Nat → Nat) (len u j : Nat) : Nat := (adj F T u len).getD j 0

theorem nb_edge (F T : Nat → Nat) (len u j : Nat) (h : j < (adj F T u len).length) : Ed F T len u (nb F T len u j) := by
  rw [← mem_adj]; unfold nb; simp [h]
theorem edge_nb (F T : Nat → Nat) (len u v : Nat) (h : Ed F T len u v) : ∃ j, j < (adj F T u len).length ∧ nb F T len u j = v := by
  rw [← mem_adj] at h
  obtain ⟨j, hj, e⟩ := List.mem_iff_getElem.1 h
  exact ⟨j, hj, by unfold nb; simp [hj, e]⟩

/-- The table of rows as the search reads it. -/
theorem OutK.read {F T : Nat → Nat} {bo base n k : Nat} {w : World} {V : Nat → Value} (h : OutK F T bo base n k w V) {u : Nat} (hu : u < n) :
    ∃ a c, w.cell? ⟨bo, u, none⟩ = some (.slice a (adj F T u k).length c) ∧ Sl .i64 w a (adj F T u k).length (fun j => (nb F T k u j : Int)) := by
  have hc := h.row.cell hu
  obtain ⟨hl, ho⟩ := h.own u hu
  rcases ho with ⟨hv, hn⟩ | ⟨g, cap, cur, hv, hb, hh, hnc, _, hcs, htk⟩
  · exact ⟨none, 0, by rw [hc, hv, hn], .inl hn⟩
  · refine ⟨some ⟨g, 0, none⟩, cap, by rw [hc, hv], .inr ⟨g, 0, rfl, ?_, fun j hj => ?_⟩⟩
    · obtain ⟨hlt, _⟩ := Array.getElem?_eq_some_iff.1 hh
      exact hlt
    · have h1 : (cur.toList.take ((adj F T u k).length * 1))[j]? = ((adj F T u k).map ival)[j]? := by rw [htk]
      rw [List.getElem?_take_of_lt (by omega), Array.getElem?_toList] at h1
      have h2 : cur[0 + j]? = some (ival (nb F T k u j)) := by
        rw [Nat.zero_add, h1]; simp [hj, nb]
      simp only [World.cell?, hh, h2]
      rfl

/-- The search from s under way. B: the block of the distances. -/
structure St (n : Nat) (E : Nat → Nat → Prop) (s : Nat) (B : Nat) (wA wr : World) (D : Nat → Int) (q : List Nat) (d0 d : Int) (g off cap : Nat) : Prop where
  bfs : BFS n E s D q
  seen : Seen n D d0 d
  dn : d ≤ n
  row : wr.rowIs B 3 n (fun j => .int .i64 (D j))
  qu : Qu wr (B + 1) g off cap q
  bel : Below B wA wr

theorem St.meet {n : Nat} {E : Nat → Nat → Prop} {s B : Nat} {wA wr w1 : World} {D : Nat → Int} {m : Nat} {r : List Nat} {d0 d : Int} {g off cap g' off' cap' u : Nat}
    (h : St n E s B wA wr D (m :: r) d0 d g off cap) (hu : u < n) (hE : E m u) (hD : D u < 0)
    (hq : Qu w1 (B + 1) g' off' cap' (m :: r ++ [u])) (hg : (wr.setCell ⟨B, u, none⟩ (.int .i64 (D m + 1))).grownBy w1 (some g)) :
    St n E s B wA w1 (upd D u (D m + 1)) (m :: r ++ [u]) d0 (max d (D m + 1)) g' off' cap' ∧ und (upd D u (D m + 1)) n + (m :: r ++ [u]).length = und D n + (m :: r).length := by
  obtain ⟨hm, hm0⟩ := h.bfs.inq m (by simp)
  have hlt := h.row.lt
  have hgB := h.qu.1
  have hs : (wr.setCell ⟨B, u, none⟩ (.int .i64 (D m + 1))).heap.size = wr.heap.size := by simp [World.setCell]
  refine ⟨⟨h.bfs.meet hu hE hD, h.seen.meet hu hD (by omega), ?_, ?_, hq, ?_⟩, ?_⟩
  · have := h.bfs.small m hm hm0
    have hund := und_upd D u (D m + 1) n hu hD (by omega)
    have := h.dn
    omega
  · refine ((h.row.set u (.int .i64 (D m + 1))).congr (fun j _ => ?_)).of_block (hg.block B (by omega) (by simp; omega))
    unfold upd; split <;> rfl
  · exact (Below.setCell (p := ⟨B, u, none⟩) h.bel (Nat.le_refl _) _).grown hg (by omega) (fun k hk => by cases hk; omega)
  · have hund := und_upd D u (D m + 1) n hu hD (by omega)
    simp only [List.length_append, List.length_singleton]
    omega


theorem met_new {N : Nat → Nat} {D : Nat → Int} {u m jj : Nat} (hmet : ∀ i, i < jj → 0 ≤ D (N i) ∧ D (N i) ≤ D m + 1) (hu : u = N jj) (hDu : D u < 0) (hm : 0 ≤ D m) :
    ∀ i, i < jj + 1 → 0 ≤ upd D u (D m + 1) (N i) ∧ upd D u (D m + 1) (N i) ≤ upd D u (D m + 1) m + 1 := by
  intro i hi
  rw [upd_ne D _ (show m ≠ u from fun e => by subst e; omega)]
  by_cases e : i = jj
  · subst e; rw [← hu, upd_same]; omega
  · obtain ⟨a, b⟩ := hmet i (by omega)
    rw [upd_ne D _ (show N i ≠ u from fun e => by rw [e] at a; omega)]
    exact ⟨a, b⟩
theorem met_old {N : Nat → Nat} {D : Nat → Int} {u m jj : Nat} (hmet : ∀ i, i < jj → 0 ≤ D (N i) ∧ D (N i) ≤ D m + 1) (hu : u = N jj) (hDu : 0 ≤ D u) (hm : D u ≤ D m + 1) :
    ∀ i, i < jj + 1 → 0 ≤ D (N i) ∧ D (N i) ≤ D m + 1 := by
  intro i hi
  by_cases e : i = jj
  · subst e; rw [← hu]; exact ⟨hDu, hm⟩
  · exact hmet i (by omega)

/-- The head is struck off the queue. -/
theorem St.pop {n : Nat} {F T : Nat → Nat} {len s B : Nat} {wA wr : World} {D : Nat → Int} {m : Nat} {r : List Nat} {d0 d : Int} {g off cap : Nat}
    (h : St n (Ed F T len) s B wA wr D (m :: r) d0 d g off cap) (hmet : ∀ i, i < (adj F T m len).length → 0 ≤ D (nb F T len m i) ∧ D (nb F T len m i) ≤ D m + 1) (h1 : 1 < cap) :
    St n (Ed F T len) s B wA wr D r d0 d g (off + 1) (cap - 1) :=
  ⟨h.bfs.pop (fun u hu => by obtain ⟨j, hj, rfl⟩ := edge_nb F T len m u hu; exact hmet j hj), h.seen, h.dn, h.row, h.qu.pop h1, h.bel⟩
theorem St.pop0 {n : Nat} {F T : Nat → Nat} {len s B : Nat} {wA wr : World} {D : Nat → Int} {m : Nat} {r : List Nat} {d0 d : Int} {g off cap : Nat}
    (h : St n (Ed F T len) s B wA wr D (m :: r) d0 d g off cap) (hmet : ∀ i, i < (adj F T m len).length → 0 ≤ D (nb F T len m i) ∧ D (nb F T len m i) ≤ D m + 1) (h1 : ¬ 1 < cap) :
    St n (Ed F T len) s B wA wr D r d0 d g off (cap - 1) :=
  ⟨h.bfs.pop (fun u hu => by obtain ⟨j, hj, rfl⟩ := edge_nb F T len m u hu; exact hmet j hj), h.seen, h.dn, h.row, (h.qu.pop0 h1).2, h.bel⟩
end Go.Proofs.Qxb6003391a.Dia
