import Derived.Test.Qxb6603530aRead
import Derived.Test.Qxb6603530aMath
namespace Go.Proofs.Qxb6603530a
open Go.ChangeShapes Go.WideShapes Go.ChangeAt Go.RowKit
open MapV

theorem kept_of (e : Ev) (r : Int) (hr : (if e.typ.toList == kStarted then e.role else 0) = r) (w : World) : Calls Try.prog 32 #[evVal e] w fun x w' => x = .returned (.int .u8 r) ∧ Below w.heap.size w w' := by
  subst hr
  exact kept_any e w

section
variable {sB : Nat} {τ : Nat → Tag} {x : SV} {K : List Ev} {L : Int} {w : World}

set_option maxRecDepth 100000 in
theorem mark_any (h : Sx sB τ x K K K L w) {c s : ByteArray} (hc : c.size ≤ maxLen) (hs : s.size ≤ maxLen) {k : Nat} {d : Ev} (hd : (ofNode K c s)[k]? = some d) (st : Bool) (ro : Int) (hst : isSt d = st) (hro : roleOf d = ro) :
    Calls Try.prog 31 #[.pointer (some ⟨sB, 0, none⟩), .string c, .string s, .int .i64 (k : Int)] w fun e w' => e = .returned (.tuple #[.int .i64 (-62135596800), .bool st, .int .u8 ro]) ∧ Below w.heap.size w w' := by
  have hk : k < (ofNode K c s).length := (List.getElem?_eq_some_iff.1 hd).1
  have hne : ofNode K c s ≠ [] := fun e => by rw [e] at hk; simp at hk
  obtain ⟨nb, g, cap, l1, c0, c1, cc⟩ := node_form h hc hs hne
  have cm : w.cell? ⟨sB, 4, none⟩ = some (.map x.nm) := h.row.cell (i := 4) (by omega)
  have hg : (ofNode K c s).getD k ⟨⟨#[]⟩, ⟨#[]⟩, ⟨#[]⟩, ⟨#[]⟩, ⟨#[]⟩, 0⟩ = d := by rw [List.getD_eq_getElem?_getD, hd]; rfl
  obtain ⟨l, hl⟩ : ∃ l, l = (ofNode K c s).length := ⟨_, rfl⟩
  have m0 : w.cell? ⟨g, k * 3, none⟩ = some (.int .i64 (-62135596800)) := (cc k hk 0 (by omega)).trans (by rw [hg]; rfl)
  have m1 : w.cell? ⟨g, k * 3 + 1, none⟩ = some (.bool st) := (cc k hk 1 (by omega)).trans (by rw [hg]; simp [markCells, hst])
  have m2 : w.cell? ⟨g, k * 3 + 2, none⟩ = some (.int .u8 ro) := (cc k hk 2 (by omega)).trans (by rw [hg]; simp [markCells, hro])
  rw [← hl] at c0 hk
  have hki : (k : Int) < (l : Int) := by omega
  clear cc c1 hl hg hd hne
  have inner : Calls Try.prog 37 #[.pointer (some ⟨sB, 4, none⟩), .string c, .string s, .int .i64 (k : Int)] w fun e w' => e = .returned (.tuple #[.int .i64 (-62135596800), .bool st, .int .u8 ro]) ∧ Below w.heap.size w w' := by
    go_enter Try.func37, Try.ntmps37
    go_wp2
    go_quiet (fail)
    go_wp2
    go_ret3
    exact ⟨rfl, below_drewN ((Below.refl _ _).alloc (Nat.le_refl _) _) _⟩
  go_enter Try.func31, Try.ntmps31
  go_wp2_with (go_at_call 37; refine inner.mono ?_; rintro e w' ⟨rfl, hb⟩)
  go_ret3
  exact ⟨rfl, hb⟩
end
end Go.Proofs.Qxb6603530a
