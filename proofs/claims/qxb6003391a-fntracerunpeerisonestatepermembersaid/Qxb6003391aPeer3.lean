import Derived.Test.Qxb6003391aPeer2
namespace Go.Proofs.Qxb6003391a.Peer
open Go.ChangeShapes Go.WideShapes Go.ChangeAt Go.RowKit
open MapV

set_option maxRecDepth 100000 in
set_option maxHeartbeats 800000 in
/-- The ways that return ahead of the loops. -/
theorem early (a0 : Option Addr) (l0 c0 : Nat) (w : World) (h0 : l0 ≤ maxLen) (h : 2048 < l0) :
    Calls Try.prog 6 #[.slice a0 l0 c0] w fun e w' => e = .returned (.bool true) ∧ Below w.heap.size w w' := by
  have q0' : (2048 : Int) < (l0 : Int) := by omega
  go_enter Try.func6, Try.ntmps6
  go_wp2_with fail
  refine (bytes_any _ _ _ _ h0).mono ?_
  rintro e w' ⟨rb, rfl, rfl, _⟩
  cases rb
  all_goals
    go_wp2
    go_ret
    exact ⟨rfl, Below.refl _ _⟩

set_option maxRecDepth 100000 in
set_option maxHeartbeats 8000000 in
theorem main_any (a0 : Option Addr) (n c0 : Nat) (f : Nat → Int) (w : World) (h0 : Sl .u32 w a0 n f) (hn : n ≤ 2048) (hf : ∀ i, i < n → (Lit.int .u32 (f i)).wf = true) :
    Calls Try.prog 6 #[.slice a0 n c0] w fun e w' => e = .returned (.bool true) ∧ Below w.heap.size w w' := by
  have t1 : decide (2048 < (n : Int)) = false := by simp; omega
  have hm1 := make_ids n hn
  have hm2 := make_sts n hn
  have hneq := neq_same
  obtain ⟨i23, hi23, _, hs23, _⟩ := info_parts Try.info23
  obtain ⟨i53, hi53, _, hs53, _⟩ := info_parts Try.info53
  go_enter Try.func6, Try.ntmps6
  go_wp2_with fail
  refine (bytes_any _ _ _ _ (by unfold maxLen; omega)).mono ?_
  rintro e w' ⟨rb, rfl, rfl, hrb⟩
  obtain rfl := hrb hn
  clear hrb
  go_wp2_with fail
  refine (cloneIDs_any _ _ _ _ _ h0 (by omega)).mono ?_
  rintro e wA ⟨a1, c1, rfl, s0, b1⟩
  clear h0
  go_wp2_with fail
  refine (new_any _).mono ?_
  rintro e w2 ⟨rfl, htr, hsz, b2⟩
  have hst := Inv.start (n := n) htr hsz b2 hn
  have hsz1 : ∀ o, (w2.alloc o).heap.size = wA.heap.size + 3 := fun o => by rw [Go.Deep.nblk_alloc, hsz]
  clear b2 htr
  go_wp2
  clear hm1 hm2 hsz1 hsz
  go_loopg [6, 4, 5] n (fun gk ctr sv tv wx => ∃ k : Nat, k ≤ n ∧ gk = n - k ∧ ctr = .int .i64 k ∧ ∃ L : List (Int × Nat), sv = .slice (some ⟨wA.heap.size + 2, 0, none⟩) L.length n ∧ tv = .slice (some ⟨wA.heap.size + 3, 0, none⟩) L.length n ∧ L.length ≤ k ∧ Inv wA.heap.size n wA L wx)
  case atStart => exact ⟨0, Nat.zero_le _, rfl, rfl, [], rfl, rfl, Nat.le_refl _, hst⟩
  case round =>
    clear hst
    obtain ⟨k, hk, rfl, rfl, L, rfl, rfl, hLk, hI⟩ := hrel
    by_cases hlt : k < n
    · rcases s0 with h | ⟨b, off, rfl, hb, hc⟩
      · omega
      have i2 : (k : Int) < (n : Int) := by omega
      have hwf := hf k hlt
      have c1 : wr.cell? ⟨b, off + k, none⟩ = some (.int .u32 (f k)) := by rw [hI.bel.cell (p := ⟨b, off + k, none⟩) hb]; exact hc k hlt
      by_cases hold : ∃ j, j < L.length ∧ (L.getD j (0, 0)).1 = f k
      · obtain ⟨j, hj, hjf⟩ := hold
        obtain ⟨p, hp⟩ : ∃ p, p = L.getD j (0, 0) := ⟨_, rfl⟩
        rw [← hjf, ← hp] at c1 hwf
        have hpm : p ∈ L := hp ▸ getD_mem hj
        have cs : ∀ i, i < L.length → wr.cell? ⟨wA.heap.size + 2, i, none⟩ = some (.int .u32 (L.getD i (0, 0)).1) := fun i hi => hI.seenCell hi
        have cj : wr.cell? ⟨wA.heap.size + 2, j, none⟩ = some (.int .u32 p.1) := by rw [cs j hj, hp]
        have ct : wr.cell? ⟨wA.heap.size + 3, j, none⟩ = some (.pointer (some ⟨p.2, 0, none⟩)) := by rw [hI.statCell hj, hp]
        have hne : ∀ i, i < j → (L.getD i (0, 0)).1 ≠ p.1 := fun i hi => by rw [hp]; exact hI.ids hi hj
        have HC : Aside (∀ i, i < L.length → wr.cell? ⟨wA.heap.size + 2, i, none⟩ = some (.int .u32 (L.getD i (0, 0)).1)) := cs
        have HN : Aside (∀ i, i < j → (L.getD i (0, 0)).1 ≠ p.1) := hne
        clear cs hne hp hjf
        go_wp2_with fail
        have hc2 := zzpeer_old wA.heap.size L p hpm hwf wr hI.tr
        refine hc2.mono ?_
        rintro e w3 ⟨rfl, rfl⟩
        clear hc2
        go_wp2
        go_loop [9, 10] (fun av jv => ∃ jj : Nat, jj ≤ j ∧ jv = .int .i64 jj ∧ av = .int .i64 (-1)) (fun _ jv => j - (intOf jv).toNat)
        case atStart => exact ⟨0, Nat.zero_le _, rfl, rfl⟩
        case round =>
          obtain ⟨jj, hjj, rfl, rfl⟩ := hrel
          have i3 : (jj : Int) < (L.length : Int) := by omega
          by_cases hjlt : jj < j
          · have c3 := HC.out jj (by omega)
            have q : ((L.getD jj (0, 0)).1 == p.1) = false := by simpa using HN.out jj hjlt
            obtain ⟨y, hy⟩ : ∃ y, y = (L.getD jj (0, 0)).1 := ⟨_, rfl⟩
            rw [← hy] at c3 q
            clear hy
            go_wp2
            go_round
            case rel => exact ⟨jj + 1, hjlt, by go_num, rfl⟩
            case measure => simp [intOf]; omega
          · obtain rfl : j = jj := by omega
            have q : (p.1 == p.1) = true := by simp
            have i4 : (0 : Int) ≤ (j : Int) := by omega
            go_wp2_with (go_at_call 24; refine (count_any wA.heap.size L _ hI.tr).mono ?_; rintro e w4 ⟨rfl, rfl⟩)
            go_roundg (n - (k + 1))
            case measure => go_light; omega
            case rel => go_light; exact ⟨k + 1, hlt, rfl, by go_num, L, rfl, rfl, by omega, hI⟩
      · have hnew : ∀ p ∈ L, p.1 ≠ f k := fun p hp e => by
          obtain ⟨j, hj, ej⟩ := List.mem_iff_getElem.1 hp
          exact hold ⟨j, hj, by simp [hj, ej, e]⟩
        have HNew : Aside (∀ p ∈ L, p.1 ≠ f k) := hnew
        clear hold hnew
        obtain ⟨id, hid⟩ : ∃ id, id = f k := ⟨_, rfl⟩
        rw [← hid] at c1 hwf HNew
        clear hid
        go_wp2_with fail
        refine (zzpeer_new wA.heap.size L id HNew.out hwf _ hI.tr).mono ?_
        rintro e w1 ⟨rfl, htr, hz1, hg1⟩
        clear hz1
        obtain ⟨own2, own3⟩ := hI.after hg1
        have hs4 := hI.hs
        have HC : Aside (∀ i, i < L.length → w1.cell? ⟨wA.heap.size + 2, i, none⟩ = some (.int .u32 (L.getD i (0, 0)).1)) := fun i hi => by
          rw [own2.cellAt i (by omega)]; simp [hi, idv]
        have HD : Aside (∀ i, i < L.length → w1.cell? ⟨wA.heap.size + 3, i, none⟩ = some (.pointer (some ⟨(L.getD i (0, 0)).2, 0, none⟩)) ∧ ((binOp .eql 53 (.pointer (some ⟨(L.getD i (0, 0)).2, 0, none⟩)) (.pointer (some ⟨wr.heap.size, 0, none⟩))).run Try.prog w1 = .ok (.bool false) w1)) := fun i hi => by
          refine ⟨by rw [own3.cellAt i (by omega)]; simp [hi, ptv], ?_⟩
          obtain ⟨c, hc⟩ := htr.st (L.getD i (0, 0)) (List.mem_append_left _ (getD_mem hi))
          obtain ⟨c', hc'⟩ := htr.st (id, wr.heap.size) (by simp)
          have hlt3 := hI.stLt _ (getD_mem hi)
          exact eql_other w1 (a := ⟨(L.getD i (0, 0)).2, 0, none⟩) (b := ⟨wr.heap.size, 0, none⟩) (fun e => by injection e with e1; omega) hc hc'
        go_wp2
        go_loop [9, 10] (fun av jv => ∃ jj : Nat, jj ≤ L.length ∧ jv = .int .i64 jj ∧ av = .int .i64 (-1)) (fun _ jv => L.length - (intOf jv).toNat)
        case atStart => exact ⟨0, Nat.zero_le _, rfl, rfl⟩
        case round =>
          obtain ⟨jj, hjj, rfl, rfl⟩ := hrel
          by_cases hjlt : jj < L.length
          · have c3 := HC.out jj hjlt
            have q : ((L.getD jj (0, 0)).1 == id) = false := by simpa using HNew.out _ (getD_mem hjlt)
            have i3 : (jj : Int) < (L.length : Int) := by omega
            obtain ⟨y, hy⟩ : ∃ y, y = (L.getD jj (0, 0)).1 := ⟨_, rfl⟩
            rw [← hy] at c3 q
            clear hy
            go_wp2
            go_round
            case rel => exact ⟨jj + 1, hjlt, by go_num, rfl⟩
            case measure => simp [intOf]; omega
          · obtain rfl : jj = L.length := by omega
            go_wp2
            go_loop [11] (fun jv => ∃ jj : Nat, jj ≤ L.length ∧ jv = .int .i64 jj) (fun jv => L.length - (intOf jv).toNat)
            case atStart => exact ⟨0, Nat.zero_le _, rfl⟩
            case round =>
              obtain ⟨jj, hjj, rfl⟩ := hrel
              by_cases hjlt2 : jj < L.length
              · obtain ⟨c3, q⟩ := HD.out jj hjlt2
                have i3 : (jj : Int) < (L.length : Int) := by omega
                obtain ⟨y, hy⟩ : ∃ y, y = (L.getD jj (0, 0)).2 := ⟨_, rfl⟩
                rw [← hy] at c3 q
                clear hy
                go_wp2
                go_round
                case rel => exact ⟨jj + 1, hjlt2, by go_num⟩
                case measure => simp [intOf]; omega
              · obtain rfl : jj = L.length := by omega
                have hroom : L.length + 1 ≤ n := by omega
                clear HC HD
                go_wp2_with (first
                  | (at_builtin; refine wpList_append_fits _ rfl (.tmp 76) (.tmp 78) 47 rfl wA.heap.size 23 i23 1 Try.underlying47 hi23 hs23 (wA.heap.size + 2) L.length n (L.map idv) rfl (own2.alloc _) ⟨w1.heap.size, 0, none⟩ 1 1 [.int .u32 id] rfl rfl (cell_one_new _ _ _) (by simp [Value.oneCell']) hroom ?_; intro w2 o2 g2; have own3b := (own3.alloc (.cells #[.int .u32 id] 23)).kept g2 (.inr (by simp [Value.ownBlock])))
                  | (at_builtin; refine wpList_append_fits _ rfl (.tmp 80) (.tmp 82) 52 rfl wA.heap.size 53 i53 1 Try.underlying52 hi53 hs53 (wA.heap.size + 3) L.length n (L.map ptv) rfl (own3b.alloc _) ⟨w2.heap.size, 0, none⟩ 1 1 [.pointer (some ⟨wr.heap.size, 0, none⟩)] rfl rfl (cell_one_new _ _ _) (by simp [Value.oneCell']) hroom ?_; intro w3 o3 g3; have hN := hI.next hwf htr hg1 _ g2 o2 _ g3 o3)
                  | (go_at_call 24; refine (count_any wA.heap.size _ _ hN.tr).mono ?_; rintro e w4 ⟨rfl, rfl⟩))
                go_roundg (n - (k + 1))
                case measure => go_light; omega
                case rel => go_light; exact ⟨k + 1, hlt, rfl, by go_num, _, by simp, by simp, by simp; omega, hN⟩
    · obtain rfl : n = k := by omega
      clear s0
      have hLn : L.length ≤ 2048 := by omega
      have HB : Aside (Below w.heap.size w wA) := b1
      go_wp2
      go_loopg [12] L.length (fun gk jv wx => gk ≤ L.length ∧ jv = .int .i64 ((gk : Int) - 1) ∧ Inv wA.heap.size n wA L wx)
      case atStart => exact ⟨Nat.le_refl _, rfl, hI⟩
      case round =>
        clear hI
        obtain ⟨hcl, rfl, hI⟩ := hrel
        cases gk with
        | zero =>
          have hfin := (HB.out).trans (hI.bel.mono HB.out.size)
          go_wp2_with (go_at_call 24; refine (count_any wA.heap.size L _ hI.tr).mono ?_; rintro e w4 ⟨rfl, rfl⟩)
          go_ret
          exact ⟨by simp, hfin⟩
        | succ c =>
          have c2 := hI.seenCell (j := c) (by omega)
          have c3 := hI.statCell (j := c) (by omega)
          obtain ⟨p, hp⟩ : ∃ p, p = L.getD c (0, 0) := ⟨_, rfl⟩
          rw [← hp] at c2 c3
          have hpm : p ∈ L := hp ▸ getD_mem (by omega)
          have hwf := hI.wfs p hpm
          have hTR : ∀ m, TR wA.heap.size L (wr.drewN m) := fun m => (hI.drewN m).tr
          have i3 : (c : Int) < (L.length : Int) := by omega
          have i4 : ((c + 1 : Nat) : Int) - 1 = (c : Int) := by omega
          rw [i4]
          clear hp i4
          go_wp2
          go_quiet ((go_at_call 23; exact Calls.quiet_of_same (zzpeer_old wA.heap.size L p hpm hwf _ (hTR _))))
          go_wp2
          go_roundg c
          case measure => go_light; omega
          case rel => go_light; exact ⟨by omega, rfl, hI.drewN _⟩
end Go.Proofs.Qxb6003391a.Peer
