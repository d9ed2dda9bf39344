import Derived.Test.Qxb6003391aDia6
namespace Go.Proofs.Qxb6003391a.Dia
open Go.ChangeShapes Go.WideShapes Go.ChangeAt Go.RowKit

set_option maxRecDepth 100000 in
set_option maxHeartbeats 1600000 in
/-- The ways that return ahead of the loops. -/
theorem early (n : Int) (a0 a1 : Option Addr) (l0 c0 l1 c1 : Nat) (w : World) (h0 : l0 ≤ maxLen) (h1 : l1 ≤ maxLen) (h : 4096 < l0 ∨ 4096 < l1 ∨ n < 0 ∨ 32 < n ∨ l0 ≠ l1) :
    Calls Try.prog 7 #[.int .i64 n, .slice a0 l0 c0, .slice a1 l1 c1] w fun e w' => e = .returned (.bool true) ∧ Below w.heap.size w w' := by
  by_cases q0 : 4096 < l0
  · have q0' : (4096 : Int) < (l0 : Int) := by omega
    go_enter Try.func7, Try.ntmps7
    go_wp2_with fail
    refine (bytes_any _ _ _ _ _ _ _ _ h0 h1).mono ?_
    rintro e w' ⟨rb, rfl, rfl, _⟩
    cases rb
    all_goals
      go_wp2
      go_ret
      exact ⟨rfl, Below.refl _ _⟩
  by_cases q1 : 4096 < l1
  · have q0' : (l0 : Int) ≤ 4096 := by omega
    have q1' : (4096 : Int) < (l1 : Int) := by omega
    go_enter Try.func7, Try.ntmps7
    go_wp2_with fail
    refine (bytes_any _ _ _ _ _ _ _ _ h0 h1).mono ?_
    rintro e w' ⟨rb, rfl, rfl, _⟩
    cases rb
    all_goals
      go_wp2
      go_ret
      exact ⟨rfl, Below.refl _ _⟩
  have q0' : (l0 : Int) ≤ 4096 := by omega
  have q1' : (l1 : Int) ≤ 4096 := by omega
  by_cases q2 : n < 0
  · go_enter Try.func7, Try.ntmps7
    go_wp2_with fail
    refine (bytes_any _ _ _ _ _ _ _ _ h0 h1).mono ?_
    rintro e w' ⟨rb, rfl, rfl, hrb⟩
    obtain rfl := hrb (by omega) (by omega)
    go_wp2
    go_ret
    exact ⟨rfl, Below.refl _ _⟩
  by_cases q3 : 32 < n
  · go_enter Try.func7, Try.ntmps7
    go_wp2_with fail
    refine (bytes_any _ _ _ _ _ _ _ _ h0 h1).mono ?_
    rintro e w' ⟨rb, rfl, rfl, hrb⟩
    obtain rfl := hrb (by omega) (by omega)
    go_wp2
    go_ret
    exact ⟨rfl, Below.refl _ _⟩
  have q4 : ((l0 : Int) != (l1 : Int)) = true := by rw [bne_iff_ne]; omega
  clear h
  go_enter Try.func7, Try.ntmps7
  go_wp2_with fail
  refine (bytes_any _ _ _ _ _ _ _ _ h0 h1).mono ?_
  rintro e w' ⟨rb, rfl, rfl, hrb⟩
  obtain rfl := hrb (by omega) (by omega)
  go_wp2
  go_ret
  exact ⟨rfl, Below.refl _ _⟩

/-- What is told of a slice of integers that came in (the shell's own words). -/
def IsRow (k : IntKind) (w : World) (a : Option Addr) (len cap : Nat) (zs : List Int) : Prop :=
  (a = none ∧ len = 0 ∧ cap = 0 ∧ zs = []) ∨
  ∃ x, a = some x ∧ len ≤ cap ∧ cap ≤ maxLen ∧ zs.length = cap ∧ (∀ i, i < zs.length → w.cell? (x.add i) = some (.int k (zs.getD i 0))) ∧ ∀ n ∈ zs, (Lit.int k n).wf = true

theorem IsRow.sl {k : IntKind} {w : World} {a : Option Addr} {len cap : Nat} {zs : List Int} (h : IsRow k w a len cap zs) : len ≤ maxLen ∧ Sl k w a len (fun i => zs.getD i 0) := by
  rcases h with ⟨_, rfl, _, _⟩ | ⟨x, rfl, hl, hm, hz, hc, _⟩
  · exact ⟨Nat.zero_le _, .inl rfl⟩
  · refine ⟨by omega, ?_⟩
    by_cases h0 : len = 0
    · exact .inl h0
    · obtain ⟨b, off, spot⟩ := x
      have hspot : spot = none := by simpa [Addr.add] using World.cell?_spot (hc 0 (by omega))
      subst hspot
      refine .inr ⟨b, off, rfl, ?_, fun i hi => ?_⟩
      · have := World.block_lt_of_cell? w _ (hc 0 (by omega))
        simpa [Addr.add] using this
      · have := hc i (by omega)
        rwa [Addr.add_lit] at this

end Go.Proofs.Qxb6003391a.Dia
