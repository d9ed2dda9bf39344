import Derived.Test.Qxb6603530aAdd2
namespace Go.Proofs.Qxb6603530a
open Go.ChangeShapes Go.WideShapes Go.ChangeAt Go.RowKit
open MapV

section
variable {sB : Nat} {τ : Nat → Tag} {x : SV} {K : List Ev} {L : Int} {w : World}

theorem len_any (h : Sx sB τ x K K K L w) : Calls Try.prog 15 #[.pointer (some ⟨sB, 0, none⟩)] w fun e w' => e = .returned (.int .i64 L) ∧ w = w' := by
  have c : w.cell? ⟨sB, 3, none⟩ = some (.int .i64 L) := by rw [← h.len]; exact h.row.cell (i := 3) (by omega)
  go_enter Try.func15, Try.ntmps15
  go_wp2
  go_ret
  exact ⟨rfl, rfl⟩
theorem nodeLen_any (h : Sx sB τ x K K K L w) : Calls Try.prog 16 #[.pointer (some ⟨sB, 0, none⟩)] w fun e w' => e = .returned (.int .i64 (K.countP isNd : Nat)) ∧ w = w' := by
  have c : w.cell? ⟨sB, 5, none⟩ = some (.int .i64 (K.countP isNd : Nat)) := by rw [← h.nl]; exact h.row.cell (i := 5) (by omega)
  go_enter Try.func16, Try.ntmps16
  go_wp2
  go_ret
  exact ⟨rfl, rfl⟩
theorem nodeCount_any (h : Sx sB τ x K K K L w) : Calls Try.prog 17 #[.pointer (some ⟨sB, 0, none⟩)] w fun e w' => e = .returned (.int .i64 (nNames K : Nat)) ∧ w = w' := by
  have c : w.cell? ⟨sB, 4, none⟩ = some (.map x.nm) := h.row.cell (i := 4) (by omega)
  obtain ⟨fn, hn⟩ := h.nodes
  go_enter Try.func17, Try.ntmps17
  go_wp2_with (at_len; refine wpList_len_map rfl _ 29 rfl 95 96 Try.underlying29 x.nm _ _ rfl hn.map ?_)
  go_ret
  exact ⟨rfl, rfl⟩
theorem unsettled_any (h : Sx sB τ x K K K L w) : Calls Try.prog 18 #[.pointer (some ⟨sB, 0, none⟩)] w fun e w' => e = .returned (.int .i64 0) ∧ w = w' := by
  have c : w.cell? ⟨sB, 8, none⟩ = some (.slice none 0 0) := h.row.cell (i := 8) (by omega)
  go_enter Try.func18, Try.ntmps18
  go_wp2
  go_ret
  exact ⟨rfl, rfl⟩
theorem own_form {w : World} {base : Nat} {e : TypeId} {size : Nat} {v : Value} {n : Nat} {xs : List Value} (h : w.ownsRow base e size v n xs) : ∃ a cap, v = .slice a n cap := by
  rcases h.2 with ⟨rfl, rfl⟩ | ⟨g, cap, cur, rfl, _⟩
  · exact ⟨_, _, rfl⟩
  · exact ⟨_, _, rfl⟩
theorem execs_any (h : Sx sB τ x K K K L w) : Calls Try.prog 19 #[.pointer (some ⟨sB, 0, none⟩)] w fun e w' => e = .returned (.int .i64 (nEx K : Nat)) ∧ w = w' := by
  obtain ⟨fs, hs⟩ := h.svcs
  obtain ⟨⟨xs, ho⟩, _⟩ := hs.exec
  obtain ⟨a, cap, hv⟩ := own_form ho
  have c : w.cell? ⟨sB, 10, none⟩ = some (.slice a (nEx K) cap) := by rw [← hv]; exact h.row.cell (i := 10) (by omega)
  go_enter Try.func19, Try.ntmps19
  go_wp2
  go_ret
  exact ⟨rfl, rfl⟩
theorem svcCount_any (h : Sx sB τ x K K K L w) : Calls Try.prog 20 #[.pointer (some ⟨sB, 0, none⟩)] w fun e w' => e = .returned (.int .i64 (nSvcs K : Nat)) ∧ w = w' := by
  have c : w.cell? ⟨sB, 9, none⟩ = some (.map x.sm) := h.row.cell (i := 9) (by omega)
  obtain ⟨fs, hs⟩ := h.svcs
  go_enter Try.func20, Try.ntmps20
  go_wp2_with (at_len; refine wpList_len_map rfl _ 40 rfl 9 84 Try.underlying40 x.sm _ _ rfl hs.map ?_)
  go_ret
  exact ⟨rfl, rfl⟩

set_option maxRecDepth 100000 in
theorem service_read (h : Sx sB τ x K K K L w) (s : ByteArray) (hs : s.size ≤ maxLen) (hpos : 0 < nDep K s + nIns K s) :
    Calls Try.prog 14 #[.pointer (some ⟨sB, 0, none⟩), .string s] w fun e w' => e = .returned (.tuple #[.int .i64 (nDep K s : Nat), .int .i64 (nIns K s : Nat), .bool true]) ∧ Below w.heap.size w w' := by
  have c : w.cell? ⟨sB, 9, none⟩ = some (.map x.sm) := h.row.cell (i := 9) (by omega)
  obtain ⟨fs, hv⟩ := h.svcs
  rcases hv.at_ s with ⟨_, e1, e2⟩ | ⟨hb, v1, v2, hf, _, hh⟩
  · omega
  · have l1 : (Instr.lookup 40 (.map x.sm) (.string s) true).run Try.prog w = .ok (.tuple #[.pointer (some ⟨hb, 0, none⟩), .bool true]) w := by
      have := MapO.look keyed9 Try.underlying40 hv.map (key9 s hs) (zero84 w) true
      rw [hf] at this
      exact this
    obtain ⟨xs, ho1⟩ := hh.own1
    obtain ⟨ys, ho2⟩ := hh.own2
    obtain ⟨a1, cap1, hv1⟩ := own_form ho1
    obtain ⟨a2, cap2, hv2⟩ := own_form ho2
    have c1 : w.cell? ⟨hb, 0, none⟩ = some (.slice a1 (nDep K s) cap1) := by rw [← hv1]; exact hh.row.cell (i := 0) (by omega)
    have c2 : w.cell? ⟨hb, 1, none⟩ = some (.slice a2 (nIns K s) cap2) := by rw [← hv2]; exact hh.row.cell (i := 1) (by omega)
    go_enter Try.func14, Try.ntmps14
    go_wp2
    go_quiet (fail)
    go_wp2
    go_ret3
    exact ⟨rfl, below_drewN (Below.refl _ _) _⟩

/-- The node of a name that some event bears. -/
theorem node_form (h : Sx sB τ x K K K L w) {c s : ByteArray} (hc : c.size ≤ maxLen) (hs : s.size ≤ maxLen) (hne : ofNode K c s ≠ []) :
    ∃ nb g cap, (Instr.lookup 29 (.map x.nm) (.agg #[.string c, .string s]) false).run Try.prog w = .ok (.pointer (some ⟨nb, 0, none⟩)) w ∧ w.cell? ⟨nb, 0, none⟩ = some (.slice (some ⟨g, 0, none⟩) (ofNode K c s).length cap) ∧ w.cell? ⟨nb, 1, none⟩ = some (.int .i64 ((ofNode K c s).length : Nat)) ∧
      ∀ k, k < (ofNode K c s).length → ∀ j, j < 3 → w.cell? ⟨g, k * 3 + j, none⟩ = (markCells ((ofNode K c s).getD k ⟨⟨#[]⟩, ⟨#[]⟩, ⟨#[]⟩, ⟨#[]⟩, ⟨#[]⟩, 0⟩))[j]? := by
  obtain ⟨fn, hn⟩ := h.nodes
  obtain ⟨l, hl⟩ := key95 c s hc hs
  have hlk := MapO.look keyed95 Try.underlying29 hn.map hl (zero96 w) false
  rcases hn.at_ c s with ⟨_, e0⟩ | ⟨nb, v, hf, _, _, hrow, hown, _⟩
  · exact absurd e0 hne
  · obtain ⟨g, cap, rfl, _, _⟩ := hown.form (List.length_pos_iff.2 hne)
    refine ⟨nb, g, cap, ?_, hrow.cell (i := 0) (by omega), hrow.cell (i := 1) (by omega), fun k hk j hj => ?_⟩
    · have : fn (.agg #[.string c, .string s]) = some (.pointer (some ⟨nb, 0, none⟩)) := hf
      rw [this] at hlk
      exact hlk
    · have hadd : (⟨g, 0, none⟩ : Addr).add (k * 3 + j) = ⟨g, k * 3 + j, none⟩ := by unfold Addr.add; split <;> simp_all
      have key : ∀ (M : List Ev) (k : Nat), k < M.length → (M.flatMap markCells)[k * 3 + j]? = (markCells (M.getD k ⟨⟨#[]⟩, ⟨#[]⟩, ⟨#[]⟩, ⟨#[]⟩, ⟨#[]⟩, 0⟩))[j]? := by
        intro M
        induction M with
        | nil => intro k hk; simp at hk
        | cons a r ih =>
          intro k hk
          cases k with
          | zero => rw [List.flatMap_cons, List.getElem?_append_left (by simp [markCells]; omega)]; simp
          | succ k =>
            have := ih k (by simpa using hk)
            rw [List.flatMap_cons, List.getElem?_append_right (by simp [markCells]; omega)]
            simpa [markCells, show (k + 1) * 3 + j - 3 = k * 3 + j by omega] using this
      have hk' := key _ k hk
      have hsm : ∃ u, (markCells ((ofNode K c s).getD k ⟨⟨#[]⟩, ⟨#[]⟩, ⟨#[]⟩, ⟨#[]⟩, ⟨#[]⟩, 0⟩))[j]? = some u := ⟨_, List.getElem?_eq_getElem (by simpa [markCells] using hj)⟩
      obtain ⟨u, hu⟩ := hsm
      rw [hu] at hk' ⊢
      have := hown.cells (g := g) rfl _ u hk'
      rwa [hadd] at this

theorem markCount_any (h : Sx sB τ x K K K L w) {c s : ByteArray} (hc : c.size ≤ maxLen) (hs : s.size ≤ maxLen) (hne : ofNode K c s ≠ []) :
    Calls Try.prog 29 #[.pointer (some ⟨sB, 0, none⟩), .string c, .string s] w fun e w' => e = .returned (.int .i64 ((ofNode K c s).length : Nat)) ∧ w = w' := by
  obtain ⟨nb, g, cap, l1, c0, c1, _⟩ := node_form h hc hs hne
  have cm : w.cell? ⟨sB, 4, none⟩ = some (.map x.nm) := h.row.cell (i := 4) (by omega)
  have ps := psome96
  have inner : Calls Try.prog 35 #[.pointer (some ⟨sB, 4, none⟩), .string c, .string s] w fun e w' => e = .returned (.int .i64 ((ofNode K c s).length : Nat)) ∧ w = w' := by
    go_enter Try.func35, Try.ntmps35
    go_wp2
    go_ret
    exact ⟨rfl, rfl⟩
  go_enter Try.func29, Try.ntmps29
  go_wp2_with (go_at_call 35; refine inner.mono ?_; rintro e w' ⟨rfl, rfl⟩)
  go_ret
  exact ⟨rfl, rfl⟩
theorem sorted_any (h : Sx sB τ x K K K L w) {c s : ByteArray} (hc : c.size ≤ maxLen) (hs : s.size ≤ maxLen) (hne : ofNode K c s ≠ []) :
    Calls Try.prog 30 #[.pointer (some ⟨sB, 0, none⟩), .string c, .string s] w fun e w' => e = .returned (.int .i64 ((ofNode K c s).length : Nat)) ∧ w = w' := by
  obtain ⟨nb, g, cap, l1, c0, c1, _⟩ := node_form h hc hs hne
  have cm : w.cell? ⟨sB, 4, none⟩ = some (.map x.nm) := h.row.cell (i := 4) (by omega)
  have ps := psome96
  have inner : Calls Try.prog 36 #[.pointer (some ⟨sB, 4, none⟩), .string c, .string s] w fun e w' => e = .returned (.int .i64 ((ofNode K c s).length : Nat)) ∧ w = w' := by
    go_enter Try.func36, Try.ntmps36
    go_wp2
    go_ret
    exact ⟨rfl, rfl⟩
  go_enter Try.func30, Try.ntmps30
  go_wp2_with (go_at_call 36; refine inner.mono ?_; rintro e w' ⟨rfl, rfl⟩)
  go_ret
  exact ⟨rfl, rfl⟩
end
end Go.Proofs.Qxb6603530a
