import Derived.Test.Qxb6603530aKeep5
namespace Go.Proofs.Qxb6603530a
open Go.ChangeShapes Go.WideShapes Go.ChangeAt Go.RowKit
open MapV

section
variable {τ : Nat → Tag} {ml mf mm : Option Nat} {fl ff fm : Value → Option Value} {K : List (ByteArray × ByteArray)} {w : World}
theorem Keep.manyNone (h : Keep τ ml mf mm fl ff fm K w) {s : ByteArray} (hl : (ids K s).length ≤ 8) : fm (.string s) = none := by
  rcases h.hm s with ⟨e, _⟩ | ⟨_, _, e, _⟩
  · exact e
  · omega
theorem Keep.fewNone (h : Keep τ ml mf mm fl ff fm K w) {s : ByteArray} (hl : (ids K s).length < 2) : ff (.string s) = none := by
  rcases h.hf s with ⟨e, _⟩ | ⟨_, _, e, _⟩
  · exact e
  · omega
theorem Keep.manySome (h : Keep τ ml mf mm fl ff fm K w) {s : ByteArray} (hl : 8 < (ids K s).length) : ∃ b, fm (.string s) = some (.map (some b)) := by
  rcases h.hm s with ⟨_, e⟩ | ⟨b, e, _⟩
  · exact absurd hl e
  · exact ⟨b, e⟩
theorem Keep.fewSome (h : Keep τ ml mf mm fl ff fm K w) {s : ByteArray} (h2 : 2 ≤ (ids K s).length) (h8 : (ids K s).length ≤ 8) : ∃ g cap, ff (.string s) = some (.slice (some ⟨g, 0, none⟩) (ids K s).length cap) := by
  rcases h.hf s with ⟨_, e⟩ | ⟨v, e, _, _, e3, _⟩
  · exact absurd ⟨h2, h8⟩ e
  · obtain ⟨g, cap, hv, _⟩ := e3.form (by omega)
    exact ⟨g, cap, by rw [e, hv]⟩
end

theorem keep_new (sB : Nat) (x : SV) (s i : ByteArray) (τ : Nat → Tag) (fl ff fm : Value → Option Value) (K : List (ByteArray × ByteArray)) (w : World) (hr : w.rowIs sB 45 11 (sv x)) (hk : Keep τ x.ml x.mf x.mm fl ff fm K w) (ts : τ sB = .other)
    (hs : s.size ≤ maxLen) (hi : i.size ≤ maxLen) (hin : (s, i) ∉ K) :
    Calls Try.prog 25 #[.pointer (some ⟨sB, 0, none⟩), keyVal s i] w fun e w' => e = .returned (.bool true) ∧ KeepPost sB x τ (K ++ [(s, i)]) w w' := by
  have hin' : i ∉ ids K s := fun e => hin (mem_ids.1 e)
  by_cases h8 : 8 < (ids K s).length
  · obtain ⟨b, hb⟩ := hk.manySome h8
    exact keep_many_new sB x s i τ fl ff fm K w hr hk ts hs hi b hb hin'
  · have hm := hk.manyNone (s := s) (by omega)
    by_cases h2 : 2 ≤ (ids K s).length
    · obtain ⟨g, cap, hf⟩ := hk.fewSome h2 (by omega)
      by_cases h7 : (ids K s).length < 8
      · exact keep_few_new sB x s i τ fl ff fm K w hr hk ts hs hi g _ cap hf hm rfl hin' h7
      · exact keep_few_full sB x s i τ fl ff fm K w hr hk ts hs hi g _ cap hf hm rfl hin' (by omega)
    · have hf := hk.fewNone (s := s) (by omega)
      have hl := hk.hl s
      match hL : ids K s, hl with
      | [], hl => exact keep_lone sB x s i τ fl ff fm K w hr hk ts hs hi hl hf hm hL
      | [u], hl => exact keep_lone_new sB x s i τ fl ff fm K w hr hk ts hs hi u (sbeq_false.2 (fun e => hin' (by rw [hL, e]; simp))) hl hf hm hL
      | _ :: _ :: _, _ => rw [hL] at h2; simp at h2

theorem keep_old (sB : Nat) (x : SV) (s i : ByteArray) (τ : Nat → Tag) (fl ff fm : Value → Option Value) (K : List (ByteArray × ByteArray)) (w : World) (hr : w.rowIs sB 45 11 (sv x)) (hk : Keep τ x.ml x.mf x.mm fl ff fm K w) (ts : τ sB = .other)
    (hs : s.size ≤ maxLen) (hi : i.size ≤ maxLen) (hin : (s, i) ∈ K) :
    Calls Try.prog 25 #[.pointer (some ⟨sB, 0, none⟩), keyVal s i] w fun e w' => e = .returned (.bool false) ∧ KeepPost sB x τ K w w' := by
  have hin' : i ∈ ids K s := mem_ids.2 hin
  by_cases h8 : 8 < (ids K s).length
  · obtain ⟨b, hb⟩ := hk.manySome h8
    exact keep_many_old sB x s i τ fl ff fm K w hr hk ts hs hi b hb hin'
  · have hm := hk.manyNone (s := s) (by omega)
    by_cases h2 : 2 ≤ (ids K s).length
    · obtain ⟨g, cap, hf⟩ := hk.fewSome h2 (by omega)
      exact keep_few_old sB x s i τ fl ff fm K w hr hk ts hs g _ cap hf hm rfl hin'
    · have hf := hk.fewNone (s := s) (by omega)
      have hl := hk.hl s
      match hL : ids K s, hl with
      | [], hl => rw [hL] at hin'; simp at hin'
      | [u], hl =>
        rw [hL] at hin'
        obtain rfl : i = u := by simpa using hin'
        exact keep_lone_old sB x s i τ fl ff fm K w hr hk ts hs hl hf hm
      | _ :: _ :: _, _ => rw [hL] at h2; simp at h2
end Go.Proofs.Qxb6603530a
