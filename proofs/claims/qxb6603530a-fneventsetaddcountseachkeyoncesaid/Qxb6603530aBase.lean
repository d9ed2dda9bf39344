import Derived.Test.Qxb6603530aRows
import Derived.Test.Qxb6603530aMapV
import Derived.WalkKit
import Derived.ProofKit
import Derived.OpenShut
import Derived.ShutString
import Derived.WalkSpells
import Derived.Deep.OwnRows
import Derived.Below
import Derived.Deep.QuietTactic
import Derived.BigQuiet
import Derived.Deep.Light
import Derived.Deep.LoopGhost
import Derived.OwnWalk
import Derived.Deep.AppendLies
import Derived.Deep.RegionLaw
import Derived.Deep.RegionHeld3
import Derived.DeepKeys4
import Derived.Maps.Keyed
namespace Go.Proofs.Qxb6603530a
open Go.ChangeShapes Go.WideShapes Go.ChangeAt Go.RowKit
open Go.Maps (Keyed string_keyed)

theorem laidOut : laidOutB Try.prog = true := by kernel_rfl
theorem row95 : (95 : TypeId) < Try.prog.types.size := of_decide_eq_true (by kernel_rfl)
theorem size : Try.prog.types.size = 139 := by kernel_rfl
theorem wide95 : (match Try.prog.underlying 95 with | some (.array _ _) | some (.struct _) => true | _ => false) = true := by rw [Try.underlying95]
set_option maxRecDepth 100000 in
theorem keyed95 : Keyed Try.prog 95 := Keyed.of_law (deep_law_laid laidOut (m := 2) (by omega) row95 (by kernel_rfl) wide95)
theorem cells95 : Try.prog.cellsOf 95 = 2 := by kernel_rfl
theorem cells9 : Try.prog.cellsOf 9 = 1 := by kernel_rfl
theorem kt95 : Try.prog.keyType 95 = true := by kernel_rfl
theorem lits95 (d : Nat) (c s : ByteArray) (hc : c.size ≤ maxLen) (hs : s.size ≤ maxLen) : Try.prog.keyLits (d + 2) 95 [.string c, .string s] = some [.string c.data.toList, .string s.data.toList] := by
  simp [Program.keyLits, Try.underlying95, Try.underlying9, cells9, cells95, hc, hs]
theorem key95 (c s : ByteArray) (hc : c.size ≤ maxLen) (hs : s.size ≤ maxLen) : ∃ l, keyOf Try.prog 95 (.agg #[.string c, .string s]) = some l := by
  have hf : (Value.agg #[.string c, .string s]).formed Try.prog 95 = true := by simp [Value.formed, Try.underlying95, cells95]
  unfold keyOf
  simp only [Try.underlying95, kt95, hf, size]
  exact ⟨_, by rw [show (Value.agg #[.string c, .string s]).cells.toList = [.string c, .string s] from rfl, lits95 138 c s hc hs]; rfl⟩
theorem keyed9 : Keyed Try.prog 9 := string_keyed Try.underlying9
theorem key9 (s : ByteArray) (hs : s.size ≤ maxLen) : keyOf Try.prog 9 (.string s) = some (.string s.data.toList) := WideMaps.keyOf_string_mk Try.underlying9 hs
theorem Try.info93 : (Try.prog.info? 93).map (fun i => (i.zero, i.size, i.bytes)) = some (some (.agg #[.int .i64 0, .bool false, .int .u8 0]), 3, 16) := by kernel_rfl
theorem Try.info103 : (Try.prog.info? 103).map (fun i => (i.zero, i.size, i.bytes)) = some (some (.agg #[.int .u64 0, .int .i64 0, .pointer none, .int .u8 0, .slice none 0 0]), 5, 56) := by kernel_rfl
theorem Try.info105 : (Try.prog.info? 105).map (fun i => (i.zero, i.size, i.bytes)) = some (some (.agg #[.int .u64 0, .int .i64 0, .pointer none, .int .i64 0]), 4, 32) := by kernel_rfl
theorem Try.info50 : (Try.prog.info? 50).map (fun i => (i.zero, i.size, i.bytes)) = some (some (.agg #[.int .u64 0, .int .i64 0, .pointer none]), 3, 24) := by kernel_rfl
theorem Try.info9 : (Try.prog.info? 9).map (fun i => (i.zero, i.size, i.bytes)) = some (some (.string ⟨#[]⟩), 1, 16) := by kernel_rfl
theorem Try.info59 : (Try.prog.info? 59).map (fun i => (i.zero, i.size, i.bytes)) = some (some (.agg #[.string ⟨#[]⟩, .string ⟨#[]⟩, .string ⟨#[]⟩, .string ⟨#[]⟩, .string ⟨#[]⟩, .int .u8 0]), 6, 88) := by kernel_rfl
theorem Try.info4 : (Try.prog.info? 4).map (fun i => (i.zero, i.size, i.bytes)) = some (some (.bool false), 1, 1) := by kernel_rfl
theorem zero73 (w : World) : (zeroValue 73).run Try.prog w = .ok (.map none) w := by kernel_rfl
theorem zero30 (w : World) : (zeroValue 30).run Try.prog w = .ok (.agg #[]) w := by kernel_rfl
theorem zero53 (w : World) : (zeroValue 53).run Try.prog w = .ok (.slice none 0 0) w := by kernel_rfl
theorem zero84 (w : World) : (zeroValue 84).run Try.prog w = .ok (.pointer none) w := by kernel_rfl
theorem zero96 (w : World) : (zeroValue 96).run Try.prog w = .ok (.pointer none) w := by kernel_rfl
theorem zero9 (w : World) : (zeroValue 9).run Try.prog w = .ok (.string ⟨#[]⟩) w := by kernel_rfl

theorem str_eq {a b : ByteArray} (h : a.toList = b.toList) : a = b := by
  rw [ByteArray.toList_eq, ByteArray.toList_eq] at h
  exact ByteArray.ext (Array.toList_inj.mp h)
theorem sbeq_true {a b : ByteArray} : (a.toList == b.toList) = true ↔ a = b := by
  rw [beq_iff_eq]
  exact ⟨str_eq, fun h => by rw [h]⟩
theorem sbeq_false {a b : ByteArray} : (a.toList == b.toList) = false ↔ a ≠ b := by
  rw [← Bool.not_eq_true, sbeq_true]
theorem below_drewN {B : Nat} {w w' : World} (h : Below B w w') (n : Nat) : Below B w (w'.drewN n) := ⟨h.os, h.tape, h.output, h.size, h.block⟩

/-- An event of the script. -/
structure Ev where
  src : ByteArray
  id : ByteArray
  typ : ByteArray
  subj : ByteArray
  clu : ByteArray
  role : Int

abbrev kStarted : List UInt8 := [116, 97, 108, 108, 121, 103, 97, 116, 101, 46, 110, 111, 100, 101, 46, 115, 116, 97, 114, 116, 101, 100]
abbrev kStopped : List UInt8 := [116, 97, 108, 108, 121, 103, 97, 116, 101, 46, 110, 111, 100, 101, 46, 115, 116, 111, 112, 112, 101, 100]
abbrev kDeployed : List UInt8 := [116, 97, 108, 108, 121, 103, 97, 116, 101, 46, 115, 101, 114, 118, 105, 99, 101, 46, 100, 101, 112, 108, 111, 121, 101, 100]
abbrev kInstances : List UInt8 := [116, 97, 108, 108, 121, 103, 97, 116, 101, 46, 115, 101, 114, 118, 105, 99, 101, 46, 105, 110, 115, 116, 97, 110, 99, 101, 115]
abbrev kExecuted : List UInt8 := [116, 97, 108, 108, 121, 103, 97, 116, 101, 46, 112, 105, 112, 101, 108, 105, 110, 101, 46, 101, 120, 101, 99, 117, 116, 101, 100]

theorem isNode_any (t : ByteArray) (w : World) : Calls Try.prog 11 #[.string t] w fun e w' => e = .returned (.bool (t.toList == kStarted || t.toList == kStopped)) ∧ w' = w := by
  cases h1 : t.toList == kStarted
  · go_enter Try.func11, Try.ntmps11
    go_wp2
    go_ret
    exact ⟨rfl, rfl⟩
  · go_enter Try.func11, Try.ntmps11
    go_wp2
    go_ret
    exact ⟨rfl, rfl⟩
theorem isSvc_any (t : ByteArray) (w : World) : Calls Try.prog 13 #[.string t] w fun e w' => e = .returned (.bool (t.toList == kDeployed || t.toList == kInstances)) ∧ w' = w := by
  cases h1 : t.toList == kDeployed
  · go_enter Try.func13, Try.ntmps13
    go_wp2
    go_ret
    exact ⟨rfl, rfl⟩
  · go_enter Try.func13, Try.ntmps13
    go_wp2
    go_ret
    exact ⟨rfl, rfl⟩

def evVal (e : Ev) : Value := .agg #[.string e.src, .string e.id, .string e.typ, .string e.subj, .string e.clu, .int .u8 e.role]
def evtVal (e : Ev) : Value := .agg #[.string e.src, .string e.id, .string e.typ, .string e.subj, .int .u64 0, .int .i64 0, .pointer none, .string e.clu, .int .u8 e.role, .int .u8 0, .slice none 0 0, .int .i64 0, .slice none 0 0]
def keyVal (s i : ByteArray) : Value := .agg #[.string s, .string i]
theorem size56 : (Try.prog.info? 56).map (·.size) = some 13 := by kernel_rfl
theorem size78 : (Try.prog.info? 78).map (·.size) = some 2 := by kernel_rfl
theorem event_any (e : Ev) (w : World) : Calls Try.prog 9 #[evVal e] w fun x w' => x = .returned (evtVal e) ∧ Below w.heap.size w w' := by
  unfold evVal
  go_enter Try.func9, Try.ntmps9
  go_wp2
  refine bodyPost_ret (results_cell_row rfl _ _ (w.heap.size + 1) 56 #[.string e.src, .string e.id, .string e.typ, .string e.subj, .int .u64 0, .int .i64 0, .pointer none, .string e.clu, .int .u8 e.role, .int .u8 0, .slice none 0 0, .int .i64 0, .slice none 0 0] (0, 0) _ rfl (by rw [← Go.Deep.nblk_alloc w]; exact Go.Deep.blk_alloc_new _ _) Try.underlying56 rfl size56) rfl ⟨rfl, ((Below.refl _ _).alloc (Nat.le_refl _) _).alloc (by simp) _⟩
theorem key_any (e : Ev) (w : World) : Calls Try.prog 26 #[evtVal e] w fun x w' => x = .returned (keyVal e.src e.id) ∧ Below w.heap.size w w' := by
  unfold evtVal
  go_enter Try.func26, Try.ntmps26
  go_wp2
  refine bodyPost_ret (results_cell_row rfl _ _ (w.heap.size + 1) 78 #[.string e.src, .string e.id] (0, 0) _ rfl (by rw [← Go.Deep.nblk_alloc w]; exact Go.Deep.blk_alloc_new _ _) Try.underlying78 rfl size78) rfl ⟨rfl, ((Below.refl _ _).alloc (Nat.le_refl _) _).alloc (by simp) _⟩
theorem kept_any (e : Ev) (w : World) : Calls Try.prog 32 #[evVal e] w fun x w' => x = .returned (.int .u8 (if e.typ.toList == kStarted then e.role else 0)) ∧ Below w.heap.size w w' := by
  unfold evVal
  cases h1 : e.typ.toList == kStarted
  · go_enter Try.func32, Try.ntmps32
    go_wp2
    go_ret
    exact ⟨rfl, (Below.refl _ _).alloc (Nat.le_refl _) _⟩
  · go_enter Try.func32, Try.ntmps32
    go_wp2
    go_ret
    exact ⟨rfl, (Below.refl _ _).alloc (Nat.le_refl _) _⟩
theorem sec_any (w : World) (b : Nat) (o : Nat) (h : w.cell? ⟨b, o, none⟩ = some (.int .u64 0)) (h1 : w.cell? ⟨b, o + 1, none⟩ = some (.int .i64 0)) : Calls Try.prog 40 #[.pointer (some ⟨b, o, none⟩)] w fun x w' => x = .returned (.int .i64 0) ∧ w' = w := by
  go_enter Try.func40, Try.ntmps40
  go_wp2
  go_ret
  exact ⟨rfl, rfl⟩
theorem unixSec_any (w : World) (b : Nat) (o : Nat) (h : w.cell? ⟨b, o, none⟩ = some (.int .u64 0)) (h1 : w.cell? ⟨b, o + 1, none⟩ = some (.int .i64 0)) : Calls Try.prog 39 #[.pointer (some ⟨b, o, none⟩)] w fun x w' => x = .returned (.int .i64 (-62135596800)) ∧ w' = w := by
  go_enter Try.func39, Try.ntmps39
  go_wp2_with (go_at_call 40; refine (sec_any _ b o h h1).mono ?_; rintro e w' ⟨rfl, rfl⟩)
  go_ret
  exact ⟨rfl, rfl⟩
theorem unix_any (w : World) : Calls Try.prog 33 #[.agg #[.int .u64 0, .int .i64 0, .pointer none]] w fun x w' => x = .returned (.int .i64 (-62135596800)) ∧ Below w.heap.size w w' := by
  go_enter Try.func33, Try.ntmps33
  go_wp2_with (go_at_call 39; refine (unixSec_any _ w.heap.size 0 (World.news_of_block (cs := #[.int .u64 0, .int .i64 0, .pointer none]) (Go.Deep.blk_alloc_new _ _) 0 _ rfl) (World.news_of_block (cs := #[.int .u64 0, .int .i64 0, .pointer none]) (Go.Deep.blk_alloc_new _ _) 1 _ rfl)).mono ?_; rintro e w' ⟨rfl, rfl⟩)
  go_ret
  exact ⟨rfl, (Below.refl _ _).alloc (Nat.le_refl _) _⟩
end Go.Proofs.Qxb6603530a
