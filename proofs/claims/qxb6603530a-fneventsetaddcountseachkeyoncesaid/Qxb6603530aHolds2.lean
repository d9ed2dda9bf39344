import Derived.Test.Qxb6603530aHolds
namespace Go.Proofs.Qxb6603530a
open Go.ChangeShapes Go.WideShapes Go.ChangeAt Go.RowKit
open MapV

theorem isNode_is (t : ByteArray) (r : Bool) (hr : (t.toList == kStarted || t.toList == kStopped) = r) (w : World) : Calls Try.prog 11 #[.string t] w fun e w' => e = .returned (.bool r) ∧ w' = w := by
  subst hr; exact isNode_any t w
theorem isSvc_is (t : ByteArray) (r : Bool) (hr : (t.toList == kDeployed || t.toList == kInstances) = r) (w : World) : Calls Try.prog 13 #[.string t] w fun e w' => e = .returned (.bool r) ∧ w' = w := by
  subst hr; exact isSvc_any t w

/-- The script and its flags, in whatever world beyond. -/
def Script (a : Option Addr) (n fB : Nat) (E : Nat → Ev) (w : World) : Prop := SlE w a n E ∧ w.rowIs fB 4 n (fun i => .bool (firstB E i))
theorem Script.below {a : Option Addr} {n fB : Nat} {E : Nat → Ev} {w w' : World} (h : Script a n fB E w) (hB : Below w.heap.size w w') : Script a n fB E w' := by
  refine ⟨?_, h.2.of_block (hB.block _ h.2.lt)⟩
  rcases h.1 with h0 | ⟨b, off, ha, hb, hc⟩
  · exact .inl h0
  · exact .inr ⟨b, off, ha, Nat.lt_of_lt_of_le hb hB.size, fun i hi j hj => by rw [hB.cell (p := ⟨b, off + i * 6 + j, none⟩) hb]; exact hc i hi j hj⟩
theorem Script.at {a : Option Addr} {n fB : Nat} {E : Nat → Ev} {w : World} (h : Script a n fB E w) {i : Nat} (hi : i < n) :
    ∃ b off, a = some ⟨b, off, none⟩ ∧ w.cell? ⟨b, off + i * 6, none⟩ = some (.string (E i).src) ∧ w.cell? ⟨b, off + i * 6 + 1, none⟩ = some (.string (E i).id) ∧ w.cell? ⟨b, off + i * 6 + 2, none⟩ = some (.string (E i).typ) ∧ w.cell? ⟨b, off + i * 6 + 3, none⟩ = some (.string (E i).subj) ∧ w.cell? ⟨b, off + i * 6 + 4, none⟩ = some (.string (E i).clu) ∧ w.cell? ⟨b, off + i * 6 + 5, none⟩ = some (.int .u8 (E i).role) ∧ w.cell? ⟨fB, i, none⟩ = some (.bool (firstB E i)) := by
  rcases h.1 with h0 | ⟨b, off, ha, _, hc⟩
  · omega
  · exact ⟨b, off, ha, hc i hi 0 (by omega), hc i hi 1 (by omega), hc i hi 2 (by omega), hc i hi 3 (by omega), hc i hi 4 (by omega), hc i hi 5 (by omega), h.2.cell hi⟩

theorem box_behind {w w3 : World} {cs : Array Value} {t : TypeId} (hb : Below (w.alloc (.cells cs t)).heap.size (w.alloc (.cells cs t)) w3) (j : Nat) (v : Value) (hv : cs.toList[j]? = some v) : w3.cell? ⟨w.heap.size, j, none⟩ = some v := by
  have h1 : w3.cell? ⟨w.heap.size, j, none⟩ = (w.alloc (.cells cs t)).cell? ⟨w.heap.size, j, none⟩ := hb.cell (p := ⟨w.heap.size, j, none⟩) (by simp)
  rw [h1]
  have := World.news_of_block (w := w.alloc (.cells cs t)) (cs := cs) (Go.Deep.blk_alloc_new _ _) j v hv
  have hadd : (⟨w.heap.size, 0, none⟩ : Addr).add j = ⟨w.heap.size, j, none⟩ := by unfold Addr.add; split <;> simp_all
  rwa [hadd] at this

set_option maxRecDepth 100000 in
set_option maxHeartbeats 4000000 in
theorem holds_any (sB : Nat) (τ : Nat → Tag) (x : SV) (L : Int) (E : Nat → Ev) (b off n cap fB i : Nat) (w : World) (h : Sx sB τ x (KK E n) (KK E n) (KK E n) L w) (hsc : Script (some ⟨b, off, none⟩) n fB E w) (hi : i < n) (hn : n ≤ 4096)
    (hc : (E i).clu.size ≤ maxLen) (hs : (E i).subj.size ≤ maxLen) (hat : Hid (atNode E (E i).clu (E i).subj i = true)) (hnil : Hid (ofNode (KK E i) (E i).clu (E i).subj = [])) :
    Calls Try.prog 12 #[.pointer (some ⟨sB, 0, none⟩), .slice (some ⟨b, off, none⟩) n cap, .slice (some ⟨fB, 0, none⟩) n n, .int .i64 (i : Int)] w fun e w' => e = .returned (.bool true) ∧ Below w.heap.size w w' := by
  obtain ⟨c, hcE⟩ : ∃ c, c = (E i).clu := ⟨_, rfl⟩
  obtain ⟨s, hsE⟩ : ∃ s, s = (E i).subj := ⟨_, rfl⟩
  obtain ⟨l, hl⟩ : ∃ l, l = (ofNode (KK E n) c s).length := ⟨_, rfl⟩
  have hne : ofNode (KK E n) (E i).clu (E i).subj ≠ [] := fun e => by
    have := ofNode_at hat.out hi
    rw [e] at this
    simp at this
  have hl1 : 1 ≤ l := by rw [hl, hcE, hsE]; exact List.length_pos_iff.2 hne
  have hl4 : l ≤ 4096 := by rw [hl]; exact Nat.le_trans (List.length_filter_le _ _) (Nat.le_trans (KK_len E n) hn)
  have HL : Hid ((ofNode (KK E n) c s).length = l) := hl.symm
  have HC : Hid (c = (E i).clu ∧ s = (E i).subj) := ⟨hcE, hsE⟩
  have HN : Hid (ofNode (KK E n) c s ≠ []) := by rw [hcE, hsE]; exact hne
  obtain ⟨b', off', hab, c0, c1, c2, c3, c4, c5, f0⟩ := hsc.at hi
  injection hab with hab
  injection hab with e1 e2
  subst e1 e2
  rw [← hcE] at c4 hc hat hnil
  rw [← hsE] at c3 hs hat hnil
  have ii : (i : Int) < (n : Int) := by omega
  have HH : Hid (Sx sB τ x (KK E n) (KK E n) (KK E n) L w ∧ Script (some ⟨b, off, none⟩) n fB E w) := ⟨h, hsc⟩
  clear h hsc hcE hsE hl hne f0
  go_enter Try.func12, Try.ntmps12
  go_wp2_with (first
    | (go_at_call 29; refine (markCount_any (HH.out.1.beneath ((Below.refl _ _).alloc (Nat.le_refl _) _)) hc hs HN.out).mono ?_; rw [HL.out]; rintro e w' ⟨rfl, rfl⟩)
    | (go_at_call 30; refine (sorted_any (HH.out.1.beneath ((Below.refl _ _).alloc (Nat.le_refl _) _)) hc hs HN.out).mono ?_; rw [HL.out]; rintro e w' ⟨rfl, rfl⟩))
  obtain ⟨W1, hW⟩ : ∃ t, t = w.alloc (.cells #[.string (E i).src, .string (E i).id, .string (E i).typ, .string s, .string c, .int .u8 (E i).role] 59) := ⟨_, rfl⟩
  have hB1 : Below w.heap.size w W1 := by rw [hW]; exact (Below.refl _ _).alloc (Nat.le_refl _) _
  have H1 : Hid (Sx sB τ x (KK E n) (KK E n) (KK E n) L W1 ∧ Script (some ⟨b, off, none⟩) n fB E W1 ∧ Below w.heap.size w W1) := ⟨HH.out.1.beneath hB1, HH.out.2.below hB1, hB1⟩
  obtain ⟨eB, heB⟩ : ∃ t, t = w.heap.size := ⟨_, rfl⟩
  have G3 : Hid (W1.cell? ⟨eB, 3, none⟩ = some (.string s) ∧ W1.cell? ⟨eB, 4, none⟩ = some (.string c) ∧ eB < W1.heap.size) := by
    rw [hW, heB]
    exact ⟨World.news_of_block (cs := #[.string (E i).src, .string (E i).id, .string (E i).typ, .string s, .string c, .int .u8 (E i).role]) (Go.Deep.blk_alloc_new _ _) 3 _ rfl, World.news_of_block (cs := #[.string (E i).src, .string (E i).id, .string (E i).typ, .string s, .string c, .int .u8 (E i).role]) (Go.Deep.blk_alloc_new _ _) 4 _ rfl, by simp⟩
  rw [← hW, ← heB]
  have HEB : Hid (eB = w.heap.size) := heB
  clear hW heB hB1 HH c0 c1 c2 c3 c4 c5
  go_loopw [11, 12] (fun tk tj wr => ∃ j : Nat, i ≤ j ∧ j ≤ n ∧ tj = .int .i64 (j : Int) ∧ tk = .int .i64 ((ofNode (KK E j) c s).length : Nat) ∧ Below W1.heap.size W1 wr) (fun _ tj _ => n - (intOf tj).toNat)
  case atStart => exact ⟨i, Nat.le_refl _, by omega, rfl, by rw [hnil.out]; rfl, Below.refl _ _⟩
  case round =>
    obtain ⟨j, hij, hjn, rfl, rfl, hB⟩ := hrel
    obtain ⟨kq, hkq⟩ : ∃ t, t = (ofNode (KK E j) c s).length := ⟨_, rfl⟩
    have HK : Hid ((ofNode (KK E j) c s).length = kq) := hkq.symm
    rw [← hkq]
    clear hkq
    have hkl : kq ≤ l := by rw [← HK.out, ← HL.out]; exact ofNode_le hjn
    by_cases hlt : j < n
    · obtain ⟨b', off', hab, c0, c1, c2, c3, c4, c5, f0⟩ := (H1.out.2.1.below hB).at hlt
      injection hab with hab
      injection hab with e1 e2
      subst e1 e2
      have hsz := hB.size
      have hBn : Below W1.heap.size W1 (wr.alloc (.cells #[.string (E j).src, .string (E j).id, .string (E j).typ, .string (E j).subj, .string (E j).clu, .int .u8 (E j).role] 59)) := hB.alloc hsz _
      have a3 : (wr.alloc (.cells #[.string (E j).src, .string (E j).id, .string (E j).typ, .string (E j).subj, .string (E j).clu, .int .u8 (E j).role] 59)).cell? ⟨eB, 3, none⟩ = some (.string s) := (hBn.cell (p := ⟨eB, 3, none⟩) G3.out.2.2).trans G3.out.1
      have a4 : (wr.alloc (.cells #[.string (E j).src, .string (E j).id, .string (E j).typ, .string (E j).subj, .string (E j).clu, .int .u8 (E j).role] 59)).cell? ⟨eB, 4, none⟩ = some (.string c) := (hBn.cell (p := ⟨eB, 4, none⟩) G3.out.2.2).trans G3.out.2.1
      have af : (wr.alloc (.cells #[.string (E j).src, .string (E j).id, .string (E j).typ, .string (E j).subj, .string (E j).clu, .int .u8 (E j).role] 59)).cell? ⟨fB, j, none⟩ = some (.bool (firstB E j)) := (H1.out.2.1.below hBn).2.cell hlt
      have ij : (j : Int) < (n : Int) := by omega
      have hnx : (ofNode (KK E (j + 1)) c s).length = if atNode E c s j then kq + 1 else kq := by
        rw [← HK.out, ofNode_next]
        split <;> simp
      have HNX : Hid ((ofNode (KK E (j + 1)) c s).length = if atNode E c s j then kq + 1 else kq) := hnx
      clear hnx
      clear f0
      cases hf : firstB E j with
      | false =>
        rw [hf] at af
        have HSA : Hid (Value.int .i64 (kq : Int) = .int .i64 ((ofNode (KK E (j + 1)) c s).length : Nat)) := by show Value.int .i64 (kq : Int) = .int .i64 ((ofNode (KK E (j + 1)) c s).length : Nat); rw [HNX.out]; simp [atNode, hf]
        go_wp2
        go_roundw
        case rel => exact ⟨j + 1, by omega, hlt, by go_num, HSA.out, hBn⟩
        case measure => simp [intOf]; omega

      | true =>
        rw [hf] at af
        cases hnd : ((E j).typ.toList == kStarted || (E j).typ.toList == kStopped) with
        | false =>
          have HSA : Hid (Value.int .i64 (kq : Int) = .int .i64 ((ofNode (KK E (j + 1)) c s).length : Nat)) := by show Value.int .i64 (kq : Int) = .int .i64 ((ofNode (KK E (j + 1)) c s).length : Nat); rw [HNX.out]; simp [atNode, sameNode, isNd, hnd]
          have HND : Hid (((E j).typ.toList == kStarted || (E j).typ.toList == kStopped) = false) := hnd
          clear hnd
          go_wp2_with (go_at_call 11; refine (isNode_is (E j).typ false HND.out _).mono ?_; rintro e w2 ⟨rfl, rfl⟩)
          go_roundw
          case rel => exact ⟨j + 1, by omega, hlt, by go_num, HSA.out, hBn⟩
          case measure => simp [intOf]; omega

        | true =>
          have HND : Hid (((E j).typ.toList == kStarted || (E j).typ.toList == kStopped) = true) := hnd
          clear hnd
          cases hcl : ((E j).clu.toList == c.toList) with
          | false =>
            have HSA : Hid (Value.int .i64 (kq : Int) = .int .i64 ((ofNode (KK E (j + 1)) c s).length : Nat)) := by show Value.int .i64 (kq : Int) = .int .i64 ((ofNode (KK E (j + 1)) c s).length : Nat); rw [HNX.out]; simp [atNode, sameNode, hcl]
            go_wp2_with (go_at_call 11; refine (isNode_is (E j).typ true HND.out _).mono ?_; rintro e w2 ⟨rfl, rfl⟩)
            go_roundw
            case rel => exact ⟨j + 1, by omega, hlt, by go_num, HSA.out, hBn⟩
            case measure => simp [intOf]; omega

          | true =>
            cases hsu : ((E j).subj.toList == s.toList) with
            | false =>
              have HSA : Hid (Value.int .i64 (kq : Int) = .int .i64 ((ofNode (KK E (j + 1)) c s).length : Nat)) := by show Value.int .i64 (kq : Int) = .int .i64 ((ofNode (KK E (j + 1)) c s).length : Nat); rw [HNX.out]; simp [atNode, sameNode, hsu]
              go_wp2_with (go_at_call 11; refine (isNode_is (E j).typ true HND.out _).mono ?_; rintro e w2 ⟨rfl, rfl⟩)
              go_roundw
              case rel => exact ⟨j + 1, by omega, hlt, by go_num, HSA.out, hBn⟩
              case measure => simp [intOf]; omega

            | true =>
              have hm : atNode E c s j = true := by
                have := HND.out
                simp [atNode, sameNode, isNd, hf, this, hcl, hsu]
              have hd := ofNode_at hm hlt
              rw [HK.out] at hd
              have hkl' : kq < l := by rw [← HL.out]; exact (List.getElem?_eq_some_iff.1 hd).1
              have HD : Hid ((ofNode (KK E n) c s)[kq]? = some (E j)) := hd
              have HSA : Hid (Value.int .i64 ((kq : Int) + 1) = .int .i64 ((ofNode (KK E (j + 1)) c s).length : Nat)) := by show Value.int .i64 ((kq : Int) + 1) = .int .i64 ((ofNode (KK E (j + 1)) c s).length : Nat); rw [HNX.out, if_pos hm]; simp
              have HS : Hid (Sx sB τ x (KK E n) (KK E n) (KK E n) L (wr.alloc (.cells #[.string (E j).src, .string (E j).id, .string (E j).typ, .string (E j).subj, .string (E j).clu, .int .u8 (E j).role] 59))) := H1.out.1.beneath hBn
              clear hd hm
              cases hst : ((E j).typ.toList == kStarted) with
              | true =>
                have HST : Hid (isSt (E j) = true ∧ roleOf (E j) = (E j).role ∧ (if (E j).typ.toList == kStarted then (E j).role else 0) = (E j).role) := ⟨hst, by simp [roleOf, isSt, hst], by simp [hst]⟩
                go_wp2_with (first
                  | (go_at_call 11; refine (isNode_is (E j).typ true HND.out _).mono ?_; rintro e w2 ⟨rfl, rfl⟩)
                  | (go_at_call 31; refine (mark_any HS.out hc hs HD.out true (E j).role HST.out.1 HST.out.2.1).mono ?_; rintro e w3 ⟨rfl, hb3⟩; have k0 : w3.cell? ⟨wr.heap.size, 0, none⟩ = some (.string (E j).src) := box_behind hb3 0 _ rfl; have k1 : w3.cell? ⟨wr.heap.size, 1, none⟩ = some (.string (E j).id) := box_behind hb3 1 _ rfl; have k2 : w3.cell? ⟨wr.heap.size, 2, none⟩ = some (.string (E j).typ) := box_behind hb3 2 _ rfl; have k3 : w3.cell? ⟨wr.heap.size, 3, none⟩ = some (.string (E j).subj) := box_behind hb3 3 _ rfl; have k4 : w3.cell? ⟨wr.heap.size, 4, none⟩ = some (.string (E j).clu) := box_behind hb3 4 _ rfl; have k5 : w3.cell? ⟨wr.heap.size, 5, none⟩ = some (.int .u8 (E j).role) := box_behind hb3 5 _ rfl)
                  | (go_at_call 32; refine (kept_of (E j) (E j).role HST.out.2.2 _).mono ?_; rintro e w4 ⟨rfl, hb4⟩))
                have hBf : Below W1.heap.size W1 w4 := (hBn.trans (hb3.mono hBn.size)).trans (hb4.mono (Nat.le_trans hBn.size hb3.size))
                go_roundw
                case rel => exact ⟨j + 1, by omega, hlt, by go_num, HSA.out, hBf⟩
                case measure => simp [intOf]; omega

              | false =>
                have HST : Hid (isSt (E j) = false ∧ roleOf (E j) = 0 ∧ (if (E j).typ.toList == kStarted then (E j).role else 0) = 0) := ⟨hst, by simp [roleOf, isSt, hst], by simp [hst]⟩
                go_wp2_with (first
                  | (go_at_call 11; refine (isNode_is (E j).typ true HND.out _).mono ?_; rintro e w2 ⟨rfl, rfl⟩)
                  | (go_at_call 31; refine (mark_any HS.out hc hs HD.out false 0 HST.out.1 HST.out.2.1).mono ?_; rintro e w3 ⟨rfl, hb3⟩; have k0 : w3.cell? ⟨wr.heap.size, 0, none⟩ = some (.string (E j).src) := box_behind hb3 0 _ rfl; have k1 : w3.cell? ⟨wr.heap.size, 1, none⟩ = some (.string (E j).id) := box_behind hb3 1 _ rfl; have k2 : w3.cell? ⟨wr.heap.size, 2, none⟩ = some (.string (E j).typ) := box_behind hb3 2 _ rfl; have k3 : w3.cell? ⟨wr.heap.size, 3, none⟩ = some (.string (E j).subj) := box_behind hb3 3 _ rfl; have k4 : w3.cell? ⟨wr.heap.size, 4, none⟩ = some (.string (E j).clu) := box_behind hb3 4 _ rfl; have k5 : w3.cell? ⟨wr.heap.size, 5, none⟩ = some (.int .u8 (E j).role) := box_behind hb3 5 _ rfl)
                  | (go_at_call 32; refine (kept_of (E j) 0 HST.out.2.2 _).mono ?_; rintro e w4 ⟨rfl, hb4⟩))
                have hBf : Below W1.heap.size W1 w4 := (hBn.trans (hb3.mono hBn.size)).trans (hb4.mono (Nat.le_trans hBn.size hb3.size))
                go_roundw
                case rel => exact ⟨j + 1, by omega, hlt, by go_num, HSA.out, hBf⟩
                case measure => simp [intOf]; omega

    · obtain rfl : j = n := by omega
      obtain rfl : kq = l := by rw [← HK.out, ← HL.out]
      go_wp2
      go_ret
      exact ⟨rfl, H1.out.2.2.trans (hB.mono (by have := H1.out.2.2.size; exact this))⟩
end Go.Proofs.Qxb6603530a
