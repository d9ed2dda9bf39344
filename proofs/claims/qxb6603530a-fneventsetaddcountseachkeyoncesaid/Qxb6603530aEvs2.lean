import Derived.Test.Qxb6603530aEvs
namespace Go.Proofs.Qxb6603530a
open Go.ChangeShapes Go.WideShapes Go.ChangeAt Go.RowKit

set_option maxRecDepth 100000 in
set_option maxHeartbeats 4000000 in
theorem addBytes_any (a : Option Addr) (n cap : Nat) (E : Nat → Ev) (w : World) (hs : SlE w a n E) (hn : n ≤ 4096) (hS : Hid (∀ i, i < n → Small (E i))) :
    Calls Try.prog 6 #[.slice a n cap] w fun e w' => ∃ t : Int, e = .returned (.int .i64 t) ∧ Below w.heap.size w w' := by
  go_enter Try.func6, Try.ntmps6
  go_wp2
  go_loopw [3, 4] (fun z t wr => ∃ (q : Nat) (zz : Int), q ≤ n ∧ t = .int .i64 q ∧ z = .int .i64 zz ∧ 0 ≤ zz ∧ zz ≤ 1048576 ∧ Below w.heap.size w wr) (fun _ t _ => n - (intOf t).toNat)
  case atStart => exact ⟨0, 80 * (n : Int), Nat.zero_le _, rfl, by first | rfl | go_num, by omega, by omega, Below.refl _ _⟩
  case round =>
    obtain ⟨q, zz, hq, rfl, rfl, z0, z1, hB⟩ := hrel
    by_cases hlt : q < n
    · rcases hs with h | ⟨b, off, rfl, hb, hc⟩
      · omega
      · have cc : ∀ j, j < 6 → wr.cell? ⟨b, off + q * 6 + j, none⟩ = some (evCell (E q) j) := fun j hj => by rw [hB.cell (p := ⟨b, off + q * 6 + j, none⟩) hb]; exact hc q hlt j hj
        have c0 : wr.cell? ⟨b, off + q * 6, none⟩ = some (.string (E q).src) := cc 0 (by omega)
        have c1 : wr.cell? ⟨b, off + q * 6 + 1, none⟩ = some (.string (E q).id) := cc 1 (by omega)
        have c2 : wr.cell? ⟨b, off + q * 6 + 2, none⟩ = some (.string (E q).typ) := cc 2 (by omega)
        have c3 : wr.cell? ⟨b, off + q * 6 + 3, none⟩ = some (.string (E q).subj) := cc 3 (by omega)
        have c4 : wr.cell? ⟨b, off + q * 6 + 4, none⟩ = some (.string (E q).clu) := cc 4 (by omega)
        have c5 : wr.cell? ⟨b, off + q * 6 + 5, none⟩ = some (.int .u8 (E q).role) := cc 5 (by omega)
        obtain ⟨s0, s1, s2, s3, s4⟩ := hS.out q hlt
        have hsz := hB.size
        clear hc cc
        by_cases hbig : 1048576 < zz + (((((E q).src.size : Int) + ((E q).id.size : Int)) + ((E q).typ.size : Int)) + ((E q).subj.size : Int) + ((E q).clu.size : Int))
        · go_wp2
          go_ret
          exact ⟨_, rfl, hB.alloc hsz _⟩
        · have hbig' : zz + (((((E q).src.size : Int) + ((E q).id.size : Int)) + ((E q).typ.size : Int)) + ((E q).subj.size : Int) + ((E q).clu.size : Int)) ≤ 1048576 := by omega
          go_wp2
          go_roundw
          case rel => exact ⟨q + 1, _, hlt, by go_num, rfl, by omega, by omega, hB.alloc hsz _⟩
          case measure => simp [intOf]; omega
    · obtain rfl : q = n := by omega
      go_wp2
      go_ret
      exact ⟨_, rfl, hB⟩

theorem setCells_other (b : Nat) : ∀ (vs : List Value) (o : Nat) (w : World), (w.setCells b o vs).os = w.os ∧ (w.setCells b o vs).tape = w.tape ∧ (w.setCells b o vs).output = w.output ∧ (w.setCells b o vs).heap.size = w.heap.size ∧ ∀ k, k ≠ b → (w.setCells b o vs).heap[k]? = w.heap[k]?
  | [], _, _ => ⟨rfl, rfl, rfl, rfl, fun _ _ => rfl⟩
  | v :: r, o, w => by
    obtain ⟨h1, h2, h3, h4, h5⟩ := setCells_other b r (o + 1) (w.setCell ⟨b, o, none⟩ v)
    exact ⟨h1, h2, h3, by rw [World.setCells, h4]; simp [World.setCell], fun k hk => by rw [World.setCells, h5 k hk, Go.Deep.blk_setCell_other _ _ _ _ hk]⟩

theorem run_copy6 (w : World) (ty : TypeId) (b n dCap sCap : Nat) (a : Addr) (cs : List Value) (hn : cs.length = n * 6)
    (hsrc : ∀ j v, cs[j]? = some v → w.cell? (a.add j) = some v) (hc : ∀ j, j < cs.length → (w.cell? ⟨b, 0 + j, none⟩).isSome = true) (hf : ∀ j, j < cs.length → w.frozen? ⟨b, 0 + j, none⟩ = false) (h1 : ∀ v ∈ cs, v.oneCell' = true) :
    (Builtin.copy_ #[22, 22] ty #[.slice (some ⟨b, 0, none⟩) n dCap, .slice (some a) n sCap]).run Try.prog w = .ok (goInt n) (w.setCells b 0 cs) := by
  have hl := run_loadCells_list (P := Try.prog) w a cs hsrc
  have hst := run_storeCells_cells (P := Try.prog) b 0 cs 0 w (by simpa using hc) (by simpa using hf) h1
  obtain ⟨i, hi, _, hz, _⟩ := info_parts Try.info59
  simp [Builtin.copy_, run_underlying Try.underlying22, Builtin.lenOf, Builtin.firstCells, sizeOf, typeInfo, hi, hz, ← hn, hl, hst]

def evList (E : Nat → Ev) (n : Nat) : List Value := (List.range (n * 6)).map (fun k => evCell (E (k / 6)) (k % 6))
theorem evList_len (E : Nat → Ev) (n : Nat) : (evList E n).length = n * 6 := by simp [evList]
theorem evCell_one (e : Ev) (j : Nat) : (evCell e j).oneCell' = true := by
  match j with
  | 0 => rfl | 1 => rfl | 2 => rfl | 3 => rfl | 4 => rfl | _ + 5 => rfl

set_option maxRecDepth 100000 in
set_option maxHeartbeats 1000000 in
theorem clone_any (a : Option Addr) (n cap : Nat) (E : Nat → Ev) (w : World) (hs : SlE w a n E) (hn : n ≤ 4096) :
    Calls Try.prog 7 #[.slice a n cap] w fun e w' => ∃ a' cap', e = .returned (.slice a' n cap') ∧ SlE w' a' n E ∧ Below w.heap.size w w' := by
  have hnil : ∀ (w : World) (a : Option Addr) (n c n' c' : Nat), (binOp .eql 22 (.slice a n c) (.slice none n' c')).run Try.prog w = .ok (.bool a.isNone) w := fun w a n c n' c' => Lib.run_eql_slice_nil w _ _ a n c n' c' Try.underlying22
  cases a with
  | none =>
    have h0 : n = 0 := by
      rcases hs with h | ⟨b, off, h, _⟩
      · exact h
      · cases h
    subst h0
    go_enter Try.func7, Try.ntmps7
    go_wp2
    go_ret
    exact ⟨_, _, rfl, .inl rfl, Below.refl _ _⟩
  | some x =>
    obtain ⟨i, hi, hz, hsz, hb⟩ := info_parts Try.info59
    have hmk : (Instr.makeSlice 22 (.int .i64 (n : Int)) (.int .i64 (n : Int))).run Try.prog w = .ok (.slice (some ⟨w.heap.size, 0, none⟩) n n) (w.alloc (.cells (madeCells #[.string ⟨#[]⟩, .string ⟨#[]⟩, .string ⟨#[]⟩, .string ⟨#[]⟩, .string ⟨#[]⟩, .int .u8 0] (n * 6)) 59)) := by
      have hr := run_make (P := Try.prog) w 22 59 i _ Try.underlying22 hi hz .i64 .i64 (n : Int) (n : Int) (by omega) (by omega) (by rw [hb]; omega) (by omega)
      simpa [hsz, Value.cells] using hr
    have hblk : (w.alloc (.cells (madeCells #[.string ⟨#[]⟩, .string ⟨#[]⟩, .string ⟨#[]⟩, .string ⟨#[]⟩, .string ⟨#[]⟩, .int .u8 0] (n * 6)) 59)).heap[w.heap.size]? = some (.cells (madeCells #[.string ⟨#[]⟩, .string ⟨#[]⟩, .string ⟨#[]⟩, .string ⟨#[]⟩, .string ⟨#[]⟩, .int .u8 0] (n * 6)) 59) := Go.Deep.blk_alloc_new _ _
    obtain ⟨W, hW⟩ : ∃ t, t = w.alloc (.cells (madeCells #[.string ⟨#[]⟩, .string ⟨#[]⟩, .string ⟨#[]⟩, .string ⟨#[]⟩, .string ⟨#[]⟩, .int .u8 0] (n * 6)) 59) := ⟨_, rfl⟩
    have hB : Below w.heap.size w W := by rw [hW]; exact (Below.refl _ _).alloc (Nat.le_refl _) _
    have hc : ∀ j, j < (evList E n).length → (W.cell? ⟨w.heap.size, 0 + j, none⟩).isSome = true := fun j hj => by
      rw [evList_len] at hj
      rw [hW, cell_of_row _ _ _ _ _ _ hblk]
      simp [size_madeCells]
      omega
    have hf : ∀ j, j < (evList E n).length → W.frozen? ⟨w.heap.size, 0 + j, none⟩ = false := fun j hj => by
      rw [hW]
      simp only [World.frozen?, hblk]
      simp
    have hsrc : ∀ j v, (evList E n)[j]? = some v → W.cell? (x.add j) = some v := fun j v hv => by
      have hj : j < n * 6 := by have := (List.getElem?_eq_some_iff.1 hv).1; rwa [evList_len] at this
      rcases hs with h | ⟨b, off, hx, hb', hcc⟩
      · omega
      · injection hx with hx
        subst hx
        have hadd : (⟨b, off, none⟩ : Addr).add j = ⟨b, off + j, none⟩ := by unfold Addr.add; split <;> simp_all
        have hcj := hcc (j / 6) (by omega) (j % 6) (Nat.mod_lt _ (by omega))
        have e1 : off + j / 6 * 6 + j % 6 = off + j := by omega
        rw [e1] at hcj
        rw [hadd, hB.cell (p := ⟨b, off + j, none⟩) hb', hcj]
        simp [evList, hj] at hv
        rw [hv]
    have hcopy := fun ty => run_copy6 W ty w.heap.size n n cap x (evList E n) (evList_len E n) hsrc hc hf (fun v hv => by obtain ⟨k, _, rfl⟩ := List.mem_map.1 hv; exact evCell_one _ _)
    obtain ⟨o1, o2, o3, o4, o5⟩ := setCells_other w.heap.size (evList E n) 0 W
    have hfin : SlE (W.setCells w.heap.size 0 (evList E n)) (some ⟨w.heap.size, 0, none⟩) n E := by
      refine .inr ⟨w.heap.size, 0, rfl, by rw [o4, hW]; simp, fun q hq j hj => ?_⟩
      have := World.cell?_setCells_in w.heap.size (evList E n) 0 W hc (q * 6 + j) (by rw [evList_len]; omega)
      rw [show 0 + q * 6 + j = 0 + (q * 6 + j) by omega, this]
      simp only [evList, List.getElem_map, List.getElem_range]
      rw [show (q * 6 + j) / 6 = q by omega, show (q * 6 + j) % 6 = j by omega]
    have hB2 : Below w.heap.size w (W.setCells w.heap.size 0 (evList E n)) := ⟨o1.trans hB.os, o2.trans hB.tape, o3.trans hB.output, by rw [o4]; exact hB.size, fun k hk => by rw [o5 k (by omega)]; exact hB.block k hk⟩
    have HF : Hid (SlE (W.setCells w.heap.size 0 (evList E n)) (some ⟨w.heap.size, 0, none⟩) n E ∧ Below w.heap.size w (W.setCells w.heap.size 0 (evList E n))) := ⟨hfin, hB2⟩
    rw [← hW] at hmk
    clear hfin hB2 o1 o2 o3 o4 o5 hc hf hsrc hblk hW hB hs hi hz hsz hb
    go_enter Try.func7, Try.ntmps7
    go_wp2
    go_ret
    exact ⟨_, _, rfl, HF.out.1, HF.out.2⟩
end Go.Proofs.Qxb6603530a
