import Derived.Test.Qxb6603530aNode4
namespace Go.Proofs.Qxb6603530a
open Go.ChangeShapes Go.WideShapes Go.ChangeAt Go.RowKit
open MapV

theorem nodeAdd_any (sB : Nat) (x : SV) (τ : Nat → Tag) (fn : Value → Option Value) (n : Nat) (K : List Ev) (e : Ev) (w : World) (hr : w.rowIs sB 45 11 (sv x)) (hk : Nodes τ x.nm fn n K w) (ts : τ sB = .other)
    (hc : e.clu.size ≤ maxLen) (hs : e.subj.size ≤ maxLen) (hl0 : 0 ≤ x.nl) (hl1 : x.nl ≤ 4096) (hlen : K.length ≤ 4096) (he : isNd e = true) :
    Calls Try.prog 27 #[.pointer (some ⟨sB, 4, none⟩), evtVal e] w fun r w' => r = .returned (.tuple #[]) ∧ NodePost sB x τ (if (ofNode K e.clu e.subj).isEmpty then n + 1 else n) (K ++ [e]) w w' := by
  have hlen' : (ofNode K e.clu e.subj).length ≤ 4096 := Nat.le_trans (List.length_filter_le _ _) hlen
  have hat := hk.at_ e.clu e.subj
  cases hf : fn (nameVal e.clu e.subj) with
  | none =>
    have h0 : (ofNode K e.clu e.subj).isEmpty = true := by
      rcases hat with ⟨_, h0⟩ | ⟨nb, v, h0, _⟩
      · rw [h0]; rfl
      · rw [hf] at h0; cases h0
    rw [h0, if_pos rfl]
    cases h1 : e.typ.toList == kStarted with
    | true =>
      cases hnm : x.nm with
      | none => exact nodeAdd_start_nil sB x τ fn n K e w hr hk ts hc hs hl0 hl1 h1 hnm
      | some b => exact nodeAdd_start_new sB x τ fn n K e w hr hk ts hc hs hl0 hl1 h1 b hnm hf
    | false =>
      have h2 : (e.typ.toList == kStopped) = true := by
        have := he
        simp only [isNd, h1, Bool.false_or] at this
        exact this
      cases hnm : x.nm with
      | none => exact nodeAdd_stop_nil sB x τ fn n K e w hr hk ts hc hs hl0 hl1 h1 h2 hnm
      | some b => exact nodeAdd_stop_new sB x τ fn n K e w hr hk ts hc hs hl0 hl1 h1 h2 b hnm hf
  | some v0 =>
    have h0 : (ofNode K e.clu e.subj).isEmpty = false := by
      rcases hat with ⟨h0, _⟩ | ⟨nb, v, _, h0, _⟩
      · rw [hf] at h0; cases h0
      · cases hh : ofNode K e.clu e.subj with
        | nil => exact absurd hh h0
        | cons => rfl
    rw [h0, if_neg (by simp)]
    have hf' : (fn (nameVal e.clu e.subj)).isNone = false := by rw [hf]; rfl
    cases hnm : x.nm with
    | none =>
      have := hk.map
      rw [hnm] at this
      rw [this.1] at hf
      cases hf
    | some b =>
      cases h1 : e.typ.toList == kStarted with
      | true => exact nodeAdd_start_old sB x τ fn n K e w hr hk ts hc hs hl0 hl1 hlen' h1 b hnm hf'
      | false =>
        have h2 : (e.typ.toList == kStopped) = true := by
          have := he
          simp only [isNd, h1, Bool.false_or] at this
          exact this
        exact nodeAdd_stop_old sB x τ fn n K e w hr hk ts hc hs hl0 hl1 hlen' h1 h2 b hnm hf'
end Go.Proofs.Qxb6603530a
