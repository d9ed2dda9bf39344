import Derived.Test.Qxb6603530aAdd
namespace Go.Proofs.Qxb6603530a
open Go.ChangeShapes Go.WideShapes Go.ChangeAt Go.RowKit
open MapV

theorem evAll {W : World} {eB : Nat} {e : Ev} (h : W.rowIs eB 56 13 (evc e)) : W.cell? ⟨eB, 0, none⟩ = some (.string e.src) ∧ W.cell? ⟨eB, 1, none⟩ = some (.string e.id) ∧ W.cell? ⟨eB, 2, none⟩ = some (.string e.typ) ∧ W.cell? ⟨eB, 3, none⟩ = some (.string e.subj) ∧ W.cell? ⟨eB, 4, none⟩ = some (.int .u64 0) ∧ W.cell? ⟨eB, 5, none⟩ = some (.int .i64 0) ∧ W.cell? ⟨eB, 6, none⟩ = some (.pointer none) ∧ W.cell? ⟨eB, 7, none⟩ = some (.string e.clu) ∧ W.cell? ⟨eB, 8, none⟩ = some (.int .u8 e.role) ∧ W.cell? ⟨eB, 9, none⟩ = some (.int .u8 0) ∧ W.cell? ⟨eB, 10, none⟩ = some (.slice none 0 0) ∧ W.cell? ⟨eB, 11, none⟩ = some (.int .i64 0) ∧ W.cell? ⟨eB, 12, none⟩ = some (.slice none 0 0) :=
  ⟨h.cell (i := 0) (by omega), h.cell (i := 1) (by omega), h.cell (i := 2) (by omega), h.cell (i := 3) (by omega), h.cell (i := 4) (by omega), h.cell (i := 5) (by omega), h.cell (i := 6) (by omega), h.cell (i := 7) (by omega), h.cell (i := 8) (by omega), h.cell (i := 9) (by omega), h.cell (i := 10) (by omega), h.cell (i := 11) (by omega), h.cell (i := 12) (by omega)⟩

/-- The set, and the event's box. -/
structure Sb (sB : Nat) (τ0 τ : Nat → Tag) (x : SV) (K1 K2 K3 : List Ev) (L : Int) (e : Ev) (eB : Nat) (w W : World) : Prop where
  sx : Sx sB τ x K1 K2 K3 L W
  ev : W.rowIs eB 56 13 (evc e)
  te : τ eB = .other
  ne : eB ≠ sB
  up : Up sB τ0 τ w W
theorem Sb.next {sB : Nat} {τ0 τ τ' : Nat → Tag} {x x' : SV} {K1 K2 K3 K1' K2' K3' : List Ev} {L L' : Int} {e : Ev} {eB : Nat} {w W W' : World} (h : Sb sB τ0 τ x K1 K2 K3 L e eB w W) (hs : Sx sB τ' x' K1' K2' K3' L' W') (hu : Up sB τ τ' W W') : Sb sB τ0 τ' x' K1' K2' K3' L' e eB w W' :=
  ⟨hs, h.ev.of_block (hu.box eB h.ev.lt h.ne h.te).1, (hu.box eB h.ev.lt h.ne h.te).2, h.ne, h.up.trans hu⟩
theorem Sb.drew {sB : Nat} {τ0 τ : Nat → Tag} {x : SV} {K1 K2 K3 : List Ev} {L : Int} {e : Ev} {eB : Nat} {w W : World} (h : Sb sB τ0 τ x K1 K2 K3 L e eB w W) : Sb sB τ0 τ x K1 K2 K3 L e eB w W.drew :=
  ⟨h.sx.drew, h.ev, h.te, h.ne, ⟨h.up.os, h.up.tape, h.up.output, h.up.size, h.up.box⟩⟩

/-- What 'Add' leaves behind. -/
def AddPost (sB : Nat) (τ : Nat → Tag) (K : List Ev) (w w' : World) : Prop := ∃ τ' x', Sx sB τ' x' K K K (K.length : Int) w' ∧ Up sB τ τ' w w'

theorem Sb.start {sB : Nat} {τ : Nat → Tag} {x : SV} {K : List Ev} {L : Int} {e : Ev} {w W1 : World} (h : Sx sB τ x K K K L w) (hb : Below (w.alloc (.cells (evArr e) 56)).heap.size (w.alloc (.cells (evArr e) 56)) W1) :
    Sb sB τ (tagAt τ w.heap.size .other) x K K K L e w.heap.size w W1 := by
  have hsz := hb.size
  rw [Go.Deep.nblk_alloc] at hsz
  have hb0 : Below w.heap.size w W1 := ((Below.refl _ _).alloc (Nat.le_refl _) _).trans (hb.mono (by simp))
  have ht : ∀ k, k < w.heap.size → tagAt τ w.heap.size .other k = τ k := fun k hk => tagAt_other _ _ (by omega)
  obtain ⟨fl, ff, fm, hk⟩ := h.keep
  obtain ⟨fn, hn⟩ := h.nodes
  obtain ⟨fs, hs⟩ := h.svcs
  have hlt := h.row.lt
  refine ⟨⟨h.row.of_block (hb0.block _ hlt), by rw [ht _ hlt]; exact h.ts, fun k hk => by rw [ht k (by omega)]; exact h.low k hk, ⟨fl, ff, fm, hk.move ht (fun k hk _ => hb0.block k hk)⟩, ⟨fn, hn.move ht (fun k hk _ => hb0.block k hk)⟩, ⟨fs, hs.move ht (fun k hk _ => hb0.block k hk)⟩, h.len, h.nl⟩, (evc_row w e).of_block (hb.block _ (by simp)), tagAt_same _ _ _, by omega,
    ⟨hb0.os, hb0.tape, hb0.output, hb0.size, fun b hb' _ htb => ⟨hb0.block b hb', by rw [ht b hb']; exact htb⟩⟩⟩

set_option maxRecDepth 100000 in
set_option maxHeartbeats 2000000 in
theorem add_old (sB : Nat) (τ : Nat → Tag) (x : SV) (K : List Ev) (e : Ev) (w : World) (h : Sx sB τ x K K K (K.length : Int) w) (hs : e.src.size ≤ maxLen) (hi : e.id.size ≤ maxLen) (hin : Hid (key e ∈ K.map key)) :
    Calls Try.prog 8 #[.pointer (some ⟨sB, 0, none⟩), evtVal e] w fun r w' => r = .returned (.tuple #[]) ∧ AddPost sB τ K w w' := by
  have HH : Hid (Sx sB τ x K K K (K.length : Int) w) := h
  clear h
  unfold evtVal
  go_enter Try.func8, Try.ntmps8
  go_wp2_with (first
    | (go_at_call 26; refine (key_any e _).mono ?_; rintro r w1 ⟨rfl, hb1⟩)
    | (go_at_call 25; refine (keep_sx_old (Sb.start (e := e) HH.out hb1).sx hs hi hin.out).mono ?_; rintro r w2 ⟨rfl, hP⟩))
  refine bodyPost_ret (results_nil rfl _ _ _) rfl ?_
  obtain ⟨τ2, x2, h2, u2⟩ := hP
  exact ⟨rfl, τ2, x2, h2, (Sb.start (e := e) HH.out hb1).up.trans u2⟩

set_option maxRecDepth 100000 in
set_option maxHeartbeats 4000000 in
theorem add_new (sB : Nat) (τ : Nat → Tag) (x : SV) (K : List Ev) (e : Ev) (w : World) (h : Sx sB τ x K K K (K.length : Int) w) (hs : e.src.size ≤ maxLen) (hi : e.id.size ≤ maxLen) (hsu : e.subj.size ≤ maxLen) (hc : e.clu.size ≤ maxLen) (hlen : Hid (K.length ≤ 4096)) (hin : Hid (key e ∉ K.map key)) :
    Calls Try.prog 8 #[.pointer (some ⟨sB, 0, none⟩), evtVal e] w fun r w' => r = .returned (.tuple #[]) ∧ AddPost sB τ (K ++ [e]) w w' := by
  have HH : Hid (Sx sB τ x K K K (K.length : Int) w) := h
  clear h
  obtain ⟨L, hL⟩ : ∃ L : Int, L = (K.length : Int) := ⟨_, rfl⟩
  have hl0 : 0 ≤ L := by omega
  have hl1 : L ≤ 4096 := by have := hlen.out; omega
  have HL : Hid (L = (K.length : Int)) := hL
  rw [← hL] at HH
  clear hL
  unfold evtVal
  go_enter Try.func8, Try.ntmps8
  go_wp2_with (first
    | (go_at_call 26; refine (key_any e _).mono ?_; rintro r w1 ⟨rfl, hb1⟩)
    | (go_at_call 25; refine (keep_sx_new (Sb.start (e := e) HH.out hb1).sx hs hi hin.out).mono ?_; rintro r w2 ⟨rfl, τ2, x2, h2, u2⟩; have hB2 := (Sb.start (e := e) HH.out hb1).next h2 u2; have c3 : w2.cell? ⟨sB, 3, none⟩ = some (.int .i64 L) := (h2.row.cell (i := 3) (by omega)).trans (by rw [show sv x2 3 = .int .i64 x2.len from rfl, h2.len]); have z3 := h2.row.frozen 3))
  have hB3 := hB2.next h2.lenStep.1 h2.lenStep.2
  clear hB2 h2 u2 c3 z3 hb1
  obtain ⟨W, hW⟩ : ∃ t, t = w2.setCell ⟨sB, 3, none⟩ (.int .i64 (L + 1)) := ⟨_, rfl⟩
  obtain ⟨eB, heB⟩ : ∃ t, t = w.heap.size := ⟨_, rfl⟩
  rw [← hW, ← heB] at hB3
  rw [← hW, ← heB]
  clear hW heB
  have hA := evAll hB3.ev
  go_region_held3 (fun w' => w'.cell? ⟨eB, 0, none⟩ = some (.string e.src) ∧ w'.cell? ⟨eB, 1, none⟩ = some (.string e.id) ∧ w'.cell? ⟨eB, 2, none⟩ = some (.string e.typ) ∧ w'.cell? ⟨eB, 3, none⟩ = some (.string e.subj) ∧ w'.cell? ⟨eB, 4, none⟩ = some (.int .u64 0) ∧ w'.cell? ⟨eB, 5, none⟩ = some (.int .i64 0) ∧ w'.cell? ⟨eB, 6, none⟩ = some (.pointer none) ∧ w'.cell? ⟨eB, 7, none⟩ = some (.string e.clu) ∧ w'.cell? ⟨eB, 8, none⟩ = some (.int .u8 e.role) ∧ w'.cell? ⟨eB, 9, none⟩ = some (.int .u8 0) ∧ w'.cell? ⟨eB, 10, none⟩ = some (.slice none 0 0) ∧ w'.cell? ⟨eB, 11, none⟩ = some (.int .i64 0) ∧ w'.cell? ⟨eB, 12, none⟩ = some (.slice none 0 0))
    (first | exact hA | exact hA4) ((go_at_call 27; refine (node_sx hB3.drew.sx hc hsu hlen.out).mono ?_; rintro r W4 ⟨rfl, τ4, x4, h4, u4⟩; have hB4 := hB3.drew.next h4 u4; have hA4 := evAll hB4.ev))
  clear hA h4 u4 hB3
  go_wp2
  go_region_held3 (fun w' => w'.cell? ⟨eB, 0, none⟩ = some (.string e.src) ∧ w'.cell? ⟨eB, 1, none⟩ = some (.string e.id) ∧ w'.cell? ⟨eB, 2, none⟩ = some (.string e.typ) ∧ w'.cell? ⟨eB, 3, none⟩ = some (.string e.subj) ∧ w'.cell? ⟨eB, 4, none⟩ = some (.int .u64 0) ∧ w'.cell? ⟨eB, 5, none⟩ = some (.int .i64 0) ∧ w'.cell? ⟨eB, 6, none⟩ = some (.pointer none) ∧ w'.cell? ⟨eB, 7, none⟩ = some (.string e.clu) ∧ w'.cell? ⟨eB, 8, none⟩ = some (.int .u8 e.role) ∧ w'.cell? ⟨eB, 9, none⟩ = some (.int .u8 0) ∧ w'.cell? ⟨eB, 10, none⟩ = some (.slice none 0 0) ∧ w'.cell? ⟨eB, 11, none⟩ = some (.int .i64 0) ∧ w'.cell? ⟨eB, 12, none⟩ = some (.slice none 0 0))
    (first | exact hA4 | exact hA5) ((go_at_call 28; refine (svc_sx hB4.drew.sx hsu hlen.out).mono ?_; rintro r W5 ⟨rfl, τ5, x5, h5, u5⟩; have hB5 := hB4.drew.next h5 u5; have hA5 := evAll hB5.ev))
  clear hA4 hA5 hB4
  go_wp2
  go_end0
  refine ⟨rfl, τ5, x5, ?_, hB5.up⟩
  have := hB5.sx
  rw [HL.out] at this
  simpa using this
end Go.Proofs.Qxb6603530a
