/-
  THE ARGUMENT, OPENED: a slice of events.
-/
import Derived.Test.Qxb6603530aEvs
import Derived.ProofKit
import Derived.Deep.Slices
import Derived.Deep.Fields
namespace Go.Proofs.Qxb6603530a
open Go.ChangeShapes Go.WideShapes Go.ChangeAt Go.RowKit Go.Deep

instance : Inhabited Ev := ⟨⟨default, default, default, default, default, 0⟩⟩
theorem cellsOf59 : Try.prog.cellsOf 59 = 6 := by kernel_rfl

theorem six {α : Type} {cs : List α} (hl : cs.length = 6) : ∃ c0 c1 c2 c3 c4 c5, cs = [c0, c1, c2, c3, c4, c5] := by
  match cs, hl with
  | [c0, c1, c2, c3, c4, c5], _ => exact ⟨c0, c1, c2, c3, c4, c5, rfl⟩

set_option maxRecDepth 100000 in
theorem ev_read {H : Type} {enc : TypeId × Value → H} {w : World} {base : Nat} {spare : Nat → Bool} {held : Bool} {n : Nat} {cs : List Value} {y : DataW H × List MemPlace}
    (h : DataW.trod enc Try.prog w base spare held n 59 cs = some y) : ∃ e : Ev, Fits e ∧ ∀ j, j < 6 → cs[j]? = some (evCell e j) := by
  obtain ⟨xs, m, _, _, hl, hxl, hf⟩ := DataW.trod_struct Try.underlying59 h
  rw [cellsOf59] at hl
  obtain ⟨c0, c1, c2, c3, c4, c5, rfl⟩ := six hl
  have c9x : Try.prog.cellsOf 9 = 1 := by kernel_rfl
  have c5x : Try.prog.cellsOf 5 = 1 := by kernel_rfl
  have g0 : DataW.trod enc Try.prog w base spare held m 9 (([c0, c1, c2, c3, c4, c5].drop 0).take (Try.prog.cellsOf 9)) = xs[0]? := hf 0 _ rfl
  rw [c9x, List.getElem?_eq_getElem (show 0 < xs.length by rw [hxl]; decide)] at g0
  obtain ⟨s0, h0, _, f0⟩ := DataW.trod_string Try.underlying9 g0
  have g1 : DataW.trod enc Try.prog w base spare held m 9 (([c0, c1, c2, c3, c4, c5].drop 1).take (Try.prog.cellsOf 9)) = xs[1]? := hf 1 _ rfl
  rw [c9x, List.getElem?_eq_getElem (show 1 < xs.length by rw [hxl]; decide)] at g1
  obtain ⟨s1, h1, _, f1⟩ := DataW.trod_string Try.underlying9 g1
  have g2 : DataW.trod enc Try.prog w base spare held m 9 (([c0, c1, c2, c3, c4, c5].drop 2).take (Try.prog.cellsOf 9)) = xs[2]? := hf 2 _ rfl
  rw [c9x, List.getElem?_eq_getElem (show 2 < xs.length by rw [hxl]; decide)] at g2
  obtain ⟨s2, h2, _, f2⟩ := DataW.trod_string Try.underlying9 g2
  have g3 : DataW.trod enc Try.prog w base spare held m 9 (([c0, c1, c2, c3, c4, c5].drop 3).take (Try.prog.cellsOf 9)) = xs[3]? := hf 3 _ rfl
  rw [c9x, List.getElem?_eq_getElem (show 3 < xs.length by rw [hxl]; decide)] at g3
  obtain ⟨s3, h3, _, f3⟩ := DataW.trod_string Try.underlying9 g3
  have g4 : DataW.trod enc Try.prog w base spare held m 9 (([c0, c1, c2, c3, c4, c5].drop 4).take (Try.prog.cellsOf 9)) = xs[4]? := hf 4 _ rfl
  rw [c9x, List.getElem?_eq_getElem (show 4 < xs.length by rw [hxl]; decide)] at g4
  obtain ⟨s4, h4, _, f4⟩ := DataW.trod_string Try.underlying9 g4
  have g5 : DataW.trod enc Try.prog w base spare held m 5 (([c0, c1, c2, c3, c4, c5].drop 5).take (Try.prog.cellsOf 5)) = xs[5]? := hf 5 _ rfl
  rw [c5x, List.getElem?_eq_getElem (show 5 < xs.length by rw [hxl]; decide)] at g5
  obtain ⟨z5, h5, _, _⟩ := DataW.trod_int Try.underlying5 g5
  simp at h0 h1 h2 h3 h4 h5
  subst h0 h1 h2 h3 h4 h5
  refine ⟨⟨s0, s1, s2, s3, s4, z5⟩, ⟨f0, f1, f2, f3, f4⟩, fun j hj => ?_⟩
  match j, hj with
  | 0, _ => rfl
  | 1, _ => rfl
  | 2, _ => rfl
  | 3, _ => rfl
  | 4, _ => rfl
  | 5, _ => rfl

theorem evs_open {H : Type} {enc : TypeId × Value → H} {w : World} {spare : Nat → Bool} {held : Bool} {base fuel : Nat} {a : Option Addr} {len cap : Nat} {x : DataW H × List MemPlace}
    (h : DataW.trod enc Try.prog w base spare held fuel 22 [.slice a len cap] = some x) : ∃ E : Nat → Ev, len ≤ maxLen ∧ SlE w a len E ∧ Hid (∀ i, i < len → Fits (E i)) := by
  rcases open_slice Try.underlying22 h with ⟨hcs, _⟩ | ⟨p, l, c, m, n, D, Pl, hcs, _, hl, hm, hmm, _, hx⟩
  · simp at hcs
    obtain ⟨rfl, rfl, rfl⟩ := hcs
    exact ⟨fun _ => default, Nat.zero_le _, .inl rfl, fun i hi => absurd hi (by omega)⟩
  · simp at hcs
    obtain ⟨rfl, rfl, rfl⟩ := hcs
    rw [cellsOf59] at hx
    have hle : len ≤ m := by rw [hmm]; split <;> omega
    obtain ⟨E, hE⟩ := choose_lt (α := Ev) (n := len) (p := fun i e => Fits e ∧ ∀ j, j < 6 → w.cell? ((p.add (i * 6)).add j) = some (evCell e j)) (fun i hi => by
      obtain ⟨cs', h1, h2⟩ := hx i (by omega)
      obtain ⟨_, _, hc⟩ := World.cells?_some h1
      obtain ⟨e, fe, he⟩ := ev_read h2
      exact ⟨e, fe, fun j hj => by rw [hc j hj, he j hj]⟩)
    refine ⟨E, by omega, ?_, fun i hi => (hE i hi).1⟩
    by_cases e : len = 0
    · exact .inl e
    · obtain ⟨b, off, spot⟩ := p
      have h00 := (hE 0 (by omega)).2 0 (by omega)
      have hspot : spot = none := by simpa [Addr.add] using World.cell?_spot h00
      subst hspot
      refine .inr ⟨b, off, rfl, ?_, fun i hi j hj => ?_⟩
      · have := World.block_lt_of_cell? w _ h00
        simpa [Addr.add] using this
      · have := (hE i hi).2 j hj
        rwa [add_plain, add_plain] at this

end Go.Proofs.Qxb6603530a
