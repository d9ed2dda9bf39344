import Derived.Test.Qxb6003391aBase
import Derived.Test.Qxb6003391aMapV
import Derived.OwnWalk
import Derived.LaidEqlPtr
import Derived.Laws.Pointers
import Derived.Deep.Light
import Derived.Deep.LoopGhost
import Derived.Maps.AppendAt
namespace Go.Proofs.Qxb6003391a.Peer
open Go.ChangeShapes Go.WideShapes Go.ChangeAt Go.RowKit
open Go.Maps (Keyed int_keyed keyOf_int_mk)
open MapV

theorem law : Keyed Try.prog 23 := int_keyed Try.underlying23
theorem zero53 (w : World) : (zeroValue 53).run Try.prog w = .ok (.pointer none) w := by kernel_rfl
theorem Try.info101 : (Try.prog.info? 101).map (fun i => i.size) = some 3 := by kernel_rfl
theorem Try.info53 : (Try.prog.info? 53).map (fun i => (i.zero, i.size, i.bytes)) = some (some (.pointer none), 1, 8) := by kernel_rfl

/-- Two pointers to states: the same, or two blocks. -/
theorem neq_same (w : World) (a : Addr) : (binOp .neq 53 (.pointer (some a)) (.pointer (some a))).run Try.prog w = .ok (.bool false) w := by
  obtain ⟨j, hj, hs⟩ := Option.map_eq_some_iff.1 Try.info101
  have h : ∀ d : Nat, (Op.equalIn (d + 1) 53 (.pointer (some a)) (.pointer (some a))).run Try.prog w = .ok true w := fun d => by
    simp [Op.equalIn, run_underlying Try.underlying53, sizeOf, typeInfo, hj, run_sameAddr_same]
  simp only [binOp]
  simp [Op.equal, Op.maxDepth, h 9999]
theorem eql_other (w : World) {a b : Addr} {ca cb : Array Value} {ta tb : TypeId} (hne : a ≠ b) (ha : w.heap[a.block]? = some (.cells ca ta (0, 0))) (hb : w.heap[b.block]? = some (.cells cb tb (0, 0))) :
    (binOp .eql 53 (.pointer (some a)) (.pointer (some b))).run Try.prog w = .ok (.bool false) w := by
  obtain ⟨j, hj, hs⟩ := Option.map_eq_some_iff.1 Try.info101
  exact run_eql_ptr_other w Try.underlying53 hj (by rw [hs]; decide) hne ha hb

/-- A member's id and its state's block. -/
def idv (p : Int × Nat) : Value := .int .u32 p.1
def ptv (p : Int × Nat) : Value := .pointer (some ⟨p.2, 0, none⟩)
def ents (L : List (Int × Nat)) : List (Value × Value) := L.map (fun p => (idv p, ptv p))

/-- The run at block B + 1, its map at block B. -/
structure TR (B : Nat) (L : List (Int × Nat)) (w : World) : Prop where
  cell : w.cell? ⟨B + 1, 12, none⟩ = some (.map (some B))
  map : MapIs Try.prog 23 w B (ents L)
  st : ∀ p ∈ L, ∃ c, w.heap[p.2]? = some (.cells c 101 (0, 0))

theorem TR.keep {B : Nat} {L : List (Int × Nat)} {w w' : World} (h : TR B L w) (hb : w'.heap[B]? = w.heap[B]?) (hb1 : w'.heap[B + 1]? = w.heap[B + 1]?) (hp : ∀ p ∈ L, w'.heap[p.2]? = w.heap[p.2]?) : TR B L w' :=
  ⟨(World.cell?_of_block (w := w) (a := ⟨B + 1, 12, none⟩) hb1).trans h.cell, h.map.of_block hb, fun p hp' => by rw [hp p hp']; exact h.st p hp'⟩

theorem new_any (w : World) : Calls Try.prog 22 #[.int .u32 1] w fun e w' => e = .returned (.pointer (some ⟨w.heap.size + 1, 0, none⟩)) ∧ TR w.heap.size [] w' ∧ w'.heap.size = w.heap.size + 2 ∧ Below w.heap.size w w' := by
  have hmm := @run_makeMap Try.prog
  go_enter Try.func22, Try.ntmps22
  go_wp2
  go_ret
  refine ⟨rfl, ⟨?_, (MapIs.new Try.prog 23 w).alloc _, by simp⟩, by simp, ((Below.refl _ _).alloc (Nat.le_refl _) _).alloc (by simp) _⟩
  have hb : ∀ o, ((w.alloc (.map #[] 0)).alloc o).heap[w.heap.size + 1]? = some o := fun o => by
    have := Go.Deep.blk_alloc_new (w.alloc (.map #[] 0)) o
    rwa [Go.Deep.nblk_alloc] at this
  simp only [World.cell?, hb]
  rfl

/-- The member is known. -/
theorem peer_old (B : Nat) (L : List (Int × Nat)) (p : Int × Nat) (hp : p ∈ L) (hw : (Lit.int .u32 p.1).wf = true) (w : World) (h : TR B L w) :
    Calls Try.prog 38 #[.pointer (some ⟨B + 1, 0, none⟩), .int .u32 p.1] w fun e w' => e = .returned (.pointer (some ⟨p.2, 0, none⟩)) ∧ w' = w := by
  have c0 := h.cell
  have hm : (Value.int .u32 p.1, Value.pointer (some ⟨p.2, 0, none⟩)) ∈ ents L := List.mem_map.2 ⟨p, hp, rfl⟩
  go_enter Try.func38, Try.ntmps38
  go_wp2_with (at_lookup; refine wpList_look_hit rfl _ _ 86 false rfl 23 53 law Try.underlying86 B _ rfl h.map (.int .u32 p.1) (.pointer (some ⟨p.2, 0, none⟩)) _ rfl (keyOf_int_mk Try.underlying23 hw) hm ?_)
  go_ret
  exact ⟨rfl, rfl⟩

/-- The member is new. -/
theorem peer_new (B : Nat) (L : List (Int × Nat)) (id : Int) (hn : ∀ p ∈ L, p.1 ≠ id) (hw : (Lit.int .u32 id).wf = true) (w : World) (h : TR B L w) :
    Calls Try.prog 38 #[.pointer (some ⟨B + 1, 0, none⟩), .int .u32 id] w fun e w' => e = .returned (.pointer (some ⟨w.heap.size, 0, none⟩)) ∧ TR B (L ++ [(id, w.heap.size)]) w' ∧ w'.heap.size = w.heap.size + 1 ∧ w.grownBy w' (some B) := by
  have c0 := h.cell
  have hb1 : B + 1 < w.heap.size := World.block_lt_of_cell? w _ c0
  have hm : ∀ q ∈ ents L, q.1 ≠ .int .u32 id := by
    intro q hq e
    obtain ⟨p, hp, rfl⟩ := List.mem_map.1 hq
    simp only [idv, Value.int.injEq, true_and] at e
    exact hn p hp e
  have hz := zero53
  have c1 : ∀ o, (w.alloc o).cell? ⟨B + 1, 12, none⟩ = some (.map (some B)) := fun o => by
    rw [World.cell?_of_block (w := w) (a := ⟨B + 1, 12, none⟩) (Go.Deep.blk_alloc_lt _ _ _ hb1)]; exact c0
  have hma := fun o => h.map.alloc o
  go_enter Try.func38, Try.ntmps38
  go_wp2_with (first
    | (at_lookup; refine wpList_look_miss rfl _ _ 86 false rfl 23 53 law Try.underlying86 B _ rfl h.map (.int .u32 id) (.pointer none) _ rfl (keyOf_int_mk Try.underlying23 hw) (hz _) hm ?_)
    | (at_mapUpdate; refine wpList_put_new rfl _ _ _ 86 rfl 23 53 law Try.underlying86 B _ rfl (hma _) (.int .u32 id) (.pointer (some ⟨w.heap.size, 0, none⟩)) _ rfl rfl (keyOf_int_mk Try.underlying23 hw) hm ?_; intro w1 hm1 ht1))
  go_ret
  have hsz : ∀ o, (w.alloc o).heap.size = w.heap.size + 1 := fun o => Go.Deep.nblk_alloc _ _
  have hB : B < w.heap.size := by omega
  have key : ∀ (k : Nat), k < w.heap.size → k ≠ B → w1.heap[k]? = w.heap[k]? := fun k hk hne => by rw [ht1.block k hne]; exact Go.Deep.blk_alloc_lt _ _ _ hk
  refine ⟨rfl, ⟨?_, by simpa [ents, idv, ptv] using hm1, ?_⟩, by rw [ht1.size, hsz], ⟨ht1.os, ht1.tape, ht1.output, by rw [ht1.size, hsz]; omega, fun k hk hne => key k hk (fun e => hne (by rw [e]))⟩⟩
  · rw [ht1.cell (p := ⟨B + 1, 12, none⟩) (by show B + 1 ≠ B; omega)]; exact c1 _
  · intro p hp
    rw [List.mem_append, List.mem_singleton] at hp
    rcases hp with hp | rfl
    · obtain ⟨c, hc⟩ := h.st p hp
      have hlt := (Array.getElem?_eq_some_iff.1 hc).1
      have hne : p.2 ≠ B := fun e => by
        obtain ⟨⟨es, cl, hb, _⟩, _, _⟩ := h.map
        rw [e, hb] at hc
        cases hc
      exact ⟨c, by rw [key p.2 hlt hne]; exact hc⟩
    · exact ⟨_, by show w1.heap[w.heap.size]? = _; rw [ht1.block w.heap.size (by omega)]; exact Go.Deep.blk_alloc_new _ _⟩

theorem zzpeer_old (B : Nat) (L : List (Int × Nat)) (p : Int × Nat) (hp : p ∈ L) (hw : (Lit.int .u32 p.1).wf = true) (w : World) (h : TR B L w) :
    Calls Try.prog 23 #[.pointer (some ⟨B + 1, 0, none⟩), .int .u32 p.1] w fun e w' => e = .returned (.pointer (some ⟨p.2, 0, none⟩)) ∧ w' = w := by
  go_enter Try.func23, Try.ntmps23
  go_wp2_with (go_at_call 38; refine (peer_old B L p hp hw _ h).mono ?_; rintro e w' ⟨rfl, rfl⟩)
  go_ret
  exact ⟨rfl, rfl⟩
theorem zzpeer_new (B : Nat) (L : List (Int × Nat)) (id : Int) (hn : ∀ p ∈ L, p.1 ≠ id) (hw : (Lit.int .u32 id).wf = true) (w : World) (h : TR B L w) :
    Calls Try.prog 23 #[.pointer (some ⟨B + 1, 0, none⟩), .int .u32 id] w fun e w' => e = .returned (.pointer (some ⟨w.heap.size, 0, none⟩)) ∧ TR B (L ++ [(id, w.heap.size)]) w' ∧ w'.heap.size = w.heap.size + 1 ∧ w.grownBy w' (some B) := by
  go_enter Try.func23, Try.ntmps23
  go_wp2_with (go_at_call 38; refine (peer_new B L id hn hw _ h).mono ?_; rintro e w' ⟨rfl, hw'⟩)
  go_ret
  exact ⟨rfl, hw'⟩

theorem count_any (B : Nat) (L : List (Int × Nat)) (w : World) (h : TR B L w) :
    Calls Try.prog 24 #[.pointer (some ⟨B + 1, 0, none⟩)] w fun e w' => e = .returned (.int .i64 (L.length : Int)) ∧ w = w' := by
  have c0 := h.cell
  have hl : (ents L).length = L.length := by simp [ents]
  go_enter Try.func24, Try.ntmps24
  go_wp2_with (at_len; refine wpList_len_map rfl _ 86 rfl 23 53 Try.underlying86 B _ rfl h.map ?_)
  go_ret
  exact ⟨by simp, rfl⟩

theorem bytes_any (a0 : Option Addr) (l0 c0 : Nat) (w : World) (h0 : l0 ≤ maxLen) :
    Calls Try.prog 20 #[.slice a0 l0 c0] w fun e w' => ∃ r : Bool, e = .returned (.bool r) ∧ w = w' ∧ (l0 ≤ 2048 → r = true) := by
  unfold maxLen at h0
  by_cases e0 : 1048576 < l0
  · have e0' : (1048576 : Int) < (l0 : Int) := by omega
    go_enter Try.func20, Try.ntmps20
    go_wp2
    go_ret
    exact ⟨false, rfl, rfl, fun h => by omega⟩
  · have e0' : (l0 : Int) ≤ 1048576 := by omega
    go_enter Try.func20, Try.ntmps20
    go_wp2
    go_ret
    exact ⟨true, rfl, rfl, fun _ => rfl⟩
end Go.Proofs.Qxb6003391a.Peer
