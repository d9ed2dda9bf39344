import Derived.Test.Qxb6603530aHolds2
namespace Go.Proofs.Qxb6603530a
open Go.ChangeShapes Go.WideShapes Go.ChangeAt Go.RowKit
open MapV

/-- What is kept in round r, behind i events of it. -/
def KS (E : Nat → Ev) (n r i : Nat) : List Ev := if r = 0 then KK E i else KK E n
theorem KS_len (E : Nat → Ev) {n r i : Nat} (hi : i ≤ n) : (KS E n r i).length ≤ n := by
  unfold KS
  split
  · exact Nat.le_trans (KK_len E i) hi
  · exact KK_len E n

def x0 : SV := ⟨none, none, none, 0, none, 0, none, .slice none 0 0⟩
theorem Sx.start (w : World) : Sx w.heap.size (fun _ => .other) x0 [] [] [] (([] : List Ev).length : Int) (w.alloc (.cells #[.map none, .map none, .map none, .int .i64 0, .map none, .int .i64 0, .int .i32 0, .int .u32 0, .slice none 0 0, .map none, .slice none 0 0] 45)) := by
  have nilF : ∀ {P : Program} {k : TypeId} {W : World}, MapO P k W none (fun _ => none) 0 := ⟨fun _ => rfl, rfl⟩
  refine ⟨World.rowIs_alloc w _ 45 (sv x0) (fun i hi => match i, hi with
    | 0, _ => rfl | 1, _ => rfl | 2, _ => rfl | 3, _ => rfl | 4, _ => rfl | 5, _ => rfl | 6, _ => rfl | 7, _ => rfl | 8, _ => rfl | 9, _ => rfl | 10, _ => rfl), rfl, fun _ _ => rfl,
    ⟨fun _ => none, fun _ => none, fun _ => none, ⟨0, nilF⟩, ⟨0, nilF⟩, ⟨0, nilF⟩, fun b h => (by cases h), fun b h => (by cases h), fun b h => (by cases h), fun s => rfl, fun s => .inl ⟨rfl, by simp [ids]⟩, fun s => .inl ⟨rfl, by simp [ids]⟩, fun p hp => by simp at hp⟩,
    ⟨fun _ => none, nilF, fun b h => (by cases h), fun c s => .inl ⟨rfl, rfl⟩⟩,
    ⟨fun _ => none, nilF, fun b h => (by cases h), fun s => .inl ⟨rfl, rfl, rfl⟩, ⟨[], World.ownsRow_nil _ _ _ _⟩, fun g hg => by simp [x0, Value.ownBlock] at hg⟩, rfl, rfl⟩

theorem add_step (sB : Nat) (τ : Nat → Tag) (x : SV) (E : Nat → Ev) (n r i : Nat) (w : World) (hi : i < n) (hn : n ≤ 4096) (h : Sx sB τ x (KS E n r i) (KS E n r i) (KS E n r i) ((KS E n r i).length : Int) w) (hf : Fits (E i)) :
    Calls Try.prog 8 #[.pointer (some ⟨sB, 0, none⟩), evtVal (E i)] w fun q w' => q = .returned (.tuple #[]) ∧ AddPost sB τ (KS E n r (i + 1)) w w' := by
  obtain ⟨f1, f2, _, f4, f5⟩ := hf
  have hlen := Nat.le_trans (KS_len E (n := n) (r := r) (Nat.le_of_lt hi)) hn
  by_cases hr : r = 0
  · subst hr
    cases hfi : firstB E i with
    | true =>
      have : KS E n 0 (i + 1) = KS E n 0 i ++ [E i] := by simp [KS, KK, hfi]
      rw [this]
      exact add_new sB τ x _ (E i) w h f1 f2 f4 f5 hlen (by show key (E i) ∉ _; simpa [KS] using KK_new hfi)
    | false =>
      have : KS E n 0 (i + 1) = KS E n 0 i := by simp [KS, KK, hfi]
      rw [this]
      exact add_old sB τ x _ (E i) w h f1 f2 (by show key (E i) ∈ _; simpa [KS] using KK_old hfi)
  · have : KS E n r (i + 1) = KS E n r i := by simp [KS, hr]
    rw [this]
    refine add_old sB τ x _ (E i) w h f1 f2 ?_
    show key (E i) ∈ _
    simpa [KS, hr] using KK_key hi

/-- The set in the world at hand. -/
def SS (sB : Nat) (K : List Ev) (w0 W : World) : Prop := ∃ τ x, Sx sB τ x K K K (K.length : Int) W ∧ Below sB w0 W
theorem SS.beneath {sB : Nat} {K : List Ev} {w0 W W' : World} (h : SS sB K w0 W) (hb : Below W.heap.size W W') : SS sB K w0 W' := by
  obtain ⟨τ, x, h1, h2⟩ := h
  exact ⟨τ, x, h1.beneath hb, h2.trans (hb.mono (Nat.le_of_lt h1.row.lt))⟩
theorem SS.add {sB : Nat} {E : Nat → Ev} {n r i : Nat} {w0 W : World} (h : SS sB (KS E n r i) w0 W) (hi : i < n) (hn : n ≤ 4096) (hf : Fits (E i)) :
    Calls Try.prog 8 #[.pointer (some ⟨sB, 0, none⟩), evtVal (E i)] W fun q W' => q = .returned (.tuple #[]) ∧ SS sB (KS E n r (i + 1)) w0 W' := by
  obtain ⟨τ, x, h1, h2⟩ := h
  refine (add_step sB τ x E n r i W hi hn h1 hf).mono fun q W' ⟨hq, τ', x', h3, hu⟩ => ⟨hq, τ', x', h3, h2.trans (hu.below h1.low h1.row.lt)⟩
end Go.Proofs.Qxb6603530a
