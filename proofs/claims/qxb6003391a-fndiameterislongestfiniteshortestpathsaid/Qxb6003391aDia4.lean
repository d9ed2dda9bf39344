import Derived.Test.Qxb6003391aDia3
namespace Go.Proofs.Qxb6003391a.Dia
open Go.ChangeShapes Go.WideShapes Go.ChangeAt Go.RowKit
open Qxb6003391aDiaMath

set_option maxRecDepth 100000 in
set_option maxHeartbeats 8000000 in
theorem dia_any (F T : Nat → Nat) (n b len cap : Nat) (w : World) (hn : n ≤ 32) (hlen : len ≤ 4096) (hF : ∀ i, i < len → F i < n) (hT : ∀ i, i < len → T i < n) (hb : b < w.heap.size) (hrow : w.rowIs b 95 (2 * len) (lkv F T)) :
    Calls Try.prog 39 #[.int .i64 n, .slice (some ⟨b, 0, none⟩) len cap] w fun e w' => ∃ d : Int, e = .returned (.int .i64 d) ∧ Dia n (Ed F T len) n d ∧ d ≤ 32 ∧ Below w.heap.size w w' := by
  have hmk := run_make_row' (P := Try.prog) 102 56 (.slice none 0 0) 24 Try.underlying102 Try.info56 rfl .i64 .i64 n (by omega) (by omega)
  have hmk2 := run_make_row' (P := Try.prog) 56 3 (.int .i64 0) 8 Try.underlying56 Try.info3 rfl .i64 .i64 n (by omega) (by omega)
  obtain ⟨i0, hi, hz0, hz1, hz2⟩ := info_parts Try.info3
  have hst := OutK.start F T n w
  go_enter Try.func39, Try.ntmps39
  go_wp2
  go_loopw [20] (fun i wr => ∃ k : Nat, k ≤ len ∧ i = .int .i64 k ∧ (∃ V, OutK F T w.heap.size (w.heap.size + 1) n k wr V) ∧ Below w.heap.size w wr) (fun i _ => len - (intOf i).toNat)
  case atStart => exact ⟨0, Nat.zero_le _, rfl, ⟨_, hst⟩, (Below.refl _ _).alloc (Nat.le_refl _) _⟩
  case round =>
    obtain ⟨k, hk, rfl, ⟨V, hO⟩, hbk⟩ := hrel
    by_cases hlt : k < len
    · have hFk := hF k hlt
      have c0 : wr.cell? ⟨b, k * 2, none⟩ = some (.int .i64 (F k)) := by rw [hbk.cell (p := ⟨b, k * 2, none⟩) hb, hrow.cell (by omega), lkv_even]
      have c1 : wr.cell? ⟨b, k * 2 + 1, none⟩ = some (.int .i64 (T k)) := by rw [hbk.cell (p := ⟨b, k * 2 + 1, none⟩) hb, hrow.cell (by omega), lkv_odd]
      have hOa := hO.alloc (.cells #[.int .i64 (F k), .int .i64 (T k)] 95)
      have d0 := hO.row.cell hFk
      have hBs := hO.hb
      have hal := adj_len F T (F k) k
      have hne : (V (F k)).ownBlock ≠ some w.heap.size := fun e => by have := ((hO.own (F k) hFk).lt _ e).1; omega
      have hne2 : (V (F k)).ownBlock ≠ some wr.heap.size := fun e => by have := ((hO.own (F k) hFk).lt _ e).2; omega
      have i1 : (0 : Int) ≤ (k : Int) := by omega
      have i2 : (k : Int) < (len : Int) := by omega
      have i3 : (0 : Int) ≤ (F k : Int) := by omega
      have i4 : (F k : Int) < (n : Int) := by omega
      have e1 := hOa.row.cell hFk
      have e2 := fun o => (hOa.alloc o).row.cell hFk
      go_wp2
      go_region_law
        ((refine step_append_lies _ (by rfl) _ _ _ (by rfl) (w.heap.size + 1) 3 i0 _ 1 8 Try.underlying56 hi hz0 hz1 hz2 rfl (by omega) (V (F k)) (adj F T (F k) k).length ((adj F T (F k) k).map ival) (by rfl) (((hOa.own (F k) hFk).alloc _).drew)
            ⟨wr.heap.size + 1, 0, none⟩ 1 1 [ival (T k)] (by rfl) (by rfl) (World.news_of_block (cs := #[.int .i64 (T k)]) (t := 3) (fr := (0, 0)) (by exact heap_alloc_two wr _ _)) (by simp [Value.oneCell', ival])
            (by omega) (by unfold maxLen; omega) (by omega) (by simp; omega) (wr.heap.size + 2) (by simp) ?_; intro gg cap1 w1 hown1 hgrow hat hlt1
          have c7 : w1.cell? ⟨wr.heap.size, 0, none⟩ = some (.int .i64 (F k)) := (hgrow.cell_far _ (by simp; omega) (Ne.symm hne2)).trans (cell_two wr _ _ _ 0 _ rfl)
          have c8 : w1.cell? ⟨wr.heap.size, 1, none⟩ = some (.int .i64 (T k)) := (hgrow.cell_far _ (by simp; omega) (Ne.symm hne2)).trans (cell_two wr _ _ _ 1 _ rfl)
          have c9 : w1.cell? ⟨w.heap.size, F k, none⟩ = some (V (F k)) := (hgrow.cell_far _ (by simp; omega) (Ne.symm hne)).trans ((hOa.alloc (.cells #[.int .i64 (T k)] 3)).row.cell hFk)
          have f9 : w1.frozen? ⟨w.heap.size, F k, none⟩ = false := (hgrow.frozen_far _ (by simp; omega) (Ne.symm hne)).trans ((hOa.alloc (.cells #[.int .i64 (T k)] 3)).row.frozen (F k))))
      all_goals
        have hR := out_round hO hbk hFk _ _ gg cap1 hown1 hgrow hat
        clear hown1 hgrow hat hlt1 c7 c8 c9 f9 e1 e2
        go_wp2
        go_roundw
        case rel => exact ⟨k + 1, hlt, by go_num, hR.1, hR.2⟩
        case measure => go_light; simp [intOf]; omega
    · obtain rfl : len = k := by omega
      clear hst hmk hi hz0 hz1 hz2 i0 hrow
      have hEn : ∀ u v, Ed F T len u v → u < n ∧ v < n := fun u v ⟨i, hi, h1, h2⟩ => ⟨h1 ▸ hF i hi, h2 ▸ hT i hi⟩
      have hbo := hO.row.lt
      have hrow0 := World.rowIs_made wr (.int .i64 0) n 3
      have HRow : Aside ((wr.alloc (.cells (madeCells #[.int .i64 0] n) 3)).rowIs wr.heap.size 3 n (fun _ => .int .i64 0)) := hrow0
      clear hrow0 hF hT
      go_wp2
      obtain ⟨wA, hwA⟩ : ∃ x, x = wr := ⟨_, rfl⟩
      rw [← hwA]
      rw [← hwA] at hO hbk hbo HRow
      clear hwA
      go_loopg [41, 8] n (fun gk ctr dv wx => ∃ s : Nat, s ≤ n ∧ gk = n - s ∧ ctr = .int .i64 s ∧ ∃ d : Int, dv = .int .i64 d ∧ Dia n (Ed F T len) s d ∧ d ≤ n ∧ (∃ D : Nat → Int, wx.rowIs wA.heap.size 3 n (fun j => .int .i64 (D j))) ∧ Below wA.heap.size wA wx)
      case atStart => exact ⟨0, Nat.zero_le _, rfl, rfl, 0, rfl, Dia.zero _ _, by omega, ⟨fun _ => 0, HRow.out⟩, (Below.refl _ _).alloc (Nat.le_refl _) _⟩
      case round =>
        obtain ⟨s, hs, rfl, rfl, d0, rfl, hdia, hd0n, ⟨D, hrD⟩, hbs⟩ := hrel
        by_cases hsn : s < n
        · have hsz : (s : Int) < (n : Int) := by omega
          go_wp2
          go_loopg [46] n (fun gk ctr wx => ∃ i : Nat, i ≤ n ∧ gk = n - i ∧ ctr = .int .i64 i ∧ wx.rowIs wA.heap.size 3 n (fun j => if j < i then .int .i64 (-1) else .int .i64 (D j)) ∧ Below wA.heap.size wA wx)
          case atStart => exact ⟨0, Nat.zero_le _, rfl, rfl, hrD.congr (fun j _ => by simp), hbs⟩
          case round =>
            obtain ⟨i, hin, rfl, rfl, hri, hbi⟩ := hrel
            by_cases hilt : i < n
            · have hiz : (i : Int) < (n : Int) := by omega
              have c1 := hri.cell hilt
              have f1 := hri.frozen i
              go_wp2
              go_roundg (n - (i + 1))
              case measure => go_light; omega
              case rel =>
                go_light
                refine ⟨i + 1, hilt, rfl, by go_num, (hri.set i (.int .i64 (-1))).congr (fun j _ => ?_), hbi.setCell (Nat.le_refl _) _⟩
                by_cases e : j = i
                · subst e; simp
                · by_cases e2 : j < i
                  · simp [e, e2, show j < i + 1 by omega]
                  · simp [e, e2, show ¬ j < i + 1 by omega]
            · obtain rfl : n = i := by omega
              have hr1 : wr.rowIs wA.heap.size 3 n (fun j => .int .i64 (-1)) := hri.congr (fun j hj => by rw [if_pos hj])
              clear hri hrD
              have c1 := hr1.cell hsn
              have f1 := hr1.frozen s
              have hr2 := (hr1.set s (.int .i64 0)).congr (g := fun j => .int .i64 (if j = s then 0 else -1)) (fun j _ => by split <;> rfl)
              have hq0 := Qu.start (wr.setCell ⟨wA.heap.size, s, none⟩ (.int .i64 0)) (wA.heap.size + 1) s (by have := hr1.lt; simp [World.setCell]; omega)
              have hsz2 : (wr.setCell ⟨wA.heap.size, s, none⟩ (.int .i64 0)).heap.size = wr.heap.size := by simp [World.setCell]
              rw [hsz2] at hq0
              have hbS : BFS n (Ed F T len) s (fun j => if j = s then 0 else -1) [s] := BFS.begin hsn (by simp) (fun v hv => by simp [hv])
              have hSe : Seen n (fun j => if j = s then 0 else -1) d0 d0 := Seen.begin (s := s) (by simp) (fun v hv => by simp [hv]) hdia.1
              have hund : und (fun j => if j = s then (0 : Int) else -1) n + 1 = n := und_start s n hsn _ (by simp) (fun v hv => by simp [hv])
              have hSt : St n (Ed F T len) s wA.heap.size wA ((wr.setCell ⟨wA.heap.size, s, none⟩ (.int .i64 0)).alloc (.cells #[ival s] 3)) (fun j => if j = s then 0 else -1) [s] d0 d0 wr.heap.size 0 1 :=
                ⟨hbS, hSe, hd0n, hr2.alloc _, hq0, (Below.setCell (p := ⟨wA.heap.size, s, none⟩) hbi (Nat.le_refl _) _).alloc (by rw [hsz2]; have := hr1.lt; omega) _⟩
              have HSt : Aside (St n (Ed F T len) s wA.heap.size wA ((wr.setCell ⟨wA.heap.size, s, none⟩ (.int .i64 0)).alloc (.cells #[ival s] 3)) (fun j => if j = s then 0 else -1) [s] d0 d0 wr.heap.size 0 1 ∧ und (fun j => if j = s then (0 : Int) else -1) n + 1 = n) := ⟨hSt, hund⟩
              clear hSt hund hSe hbS hq0 hr2 hsz2 hr1
              go_wp2
              go_loopg [12, 8] n (fun gk qv dv wx => ∃ (g off cq : Nat) (q : List Nat) (D : Nat → Int) (d : Int), qv = .slice (some ⟨g, off, none⟩) q.length cq ∧ dv = .int .i64 d ∧ St n (Ed F T len) s wA.heap.size wA wx D q d0 d g off cq ∧ gk = und D n + q.length ∧ gk ≤ n)
              case atStart => exact ⟨wr.heap.size, 0, 1, [s], _, d0, rfl, rfl, HSt.out.1, HSt.out.2.symm, Nat.le_refl _⟩
              case round =>
                clear HSt hbi c1 f1 hbs
                obtain ⟨g, off, cq, q, D2, d, rfl, rfl, hS, hgk, hgn⟩ := hrel
                have HG : Aside (gk = und D2 n + q.length) := hgk
                clear hgk
                cases q with
                | nil =>
                  have hfin := Seen.finish hEn hsn hS.bfs hdia hS.seen
                  have hrowE := hS.row
                  have hbelE := hS.bel
                  have hdn := hS.dn
                  clear hS HG
                  go_wp2
                  go_roundg (n - (s + 1))
                  case measure => go_light; omega
                  case rel => go_light; exact ⟨s + 1, by omega, rfl, by go_num, d, rfl, hfin, hdn, ⟨D2, hrowE⟩, hbelE⟩
                | cons m r =>
                  obtain ⟨hm, hm0⟩ := hS.bfs.inq m (by simp)
                  have cq0 : wr.cell? ⟨g, off, none⟩ = some (.int .i64 (m : Int)) := by simpa [ival] using hS.qu.cell (j := 0) (by simp)
                  obtain ⟨am, cm, hcm, hslm⟩ := hO.read hm
                  have hcm' : wr.cell? ⟨w.heap.size, m, none⟩ = some (.slice am (adj F T m len).length cm) := by rw [hS.bel.cell (p := ⟨w.heap.size, m, none⟩) hbo]; exact hcm
                  have hmz : (m : Int) < (n : Int) := by omega
                  have hadl := adj_len F T m len
                  have hql : (0 : Int) < ((m :: r).length : Int) := by simp only [List.length_cons]; omega
                  have hcq : 1 ≤ cq := by have := hS.qu; obtain ⟨_, _, _, _, h4, _⟩ := this; simp only [List.length_cons] at h4; omega
                  go_wp2
                  go_loopg [71, 12, 8] (adj F T m len).length (fun gi ctr qv dv wx => ∃ jj : Nat, jj ≤ (adj F T m len).length ∧ gi = (adj F T m len).length - jj ∧ ctr = .int .i64 jj ∧ ∃ (g off cq : Nat) (r : List Nat) (D : Nat → Int) (d : Int), qv = .slice (some ⟨g, off, none⟩) (r.length + 1) cq ∧ dv = .int .i64 d ∧ St n (Ed F T len) s wA.heap.size wA wx D (m :: r) d0 d g off cq ∧ gk = und D n + (m :: r).length ∧ (∀ i, i < jj → 0 ≤ D (nb F T len m i) ∧ D (nb F T len m i) ≤ D m + 1))
                  case atStart => exact ⟨0, Nat.zero_le _, rfl, rfl, g, off, cq, r, D2, d, rfl, rfl, hS, HG.out, fun i hi => by omega⟩
                  case round =>
                    clear HG hS cq0 hcm' hcm hql hm0 hcq
                    obtain ⟨jj, hjj, rfl, rfl, g, off, cq, r, D, d, rfl, rfl, hS, hgk, hmet⟩ := hrel
                    have HG : Aside (gk = und D n + (m :: r).length ∧ ∀ i, i < jj → 0 ≤ D (nb F T len m i) ∧ D (nb F T len m i) ≤ D m + 1) := ⟨hgk, hmet⟩
                    clear hgk hmet
                    by_cases hjl : jj < (adj F T m len).length
                    · rcases hslm with h | ⟨b0, o0, rfl, hb0, hc0⟩
                      · omega
                      have hE := nb_edge F T len m jj hjl
                      have hun := (hEn _ _ hE).2
                      have c1 : wr.cell? ⟨b0, o0 + jj, none⟩ = some (.int .i64 (nb F T len m jj : Int)) := by rw [hS.bel.cell (p := ⟨b0, o0 + jj, none⟩) hb0]; exact hc0 jj hjl
                      obtain ⟨u, hu⟩ : ∃ u, u = nb F T len m jj := ⟨_, rfl⟩
                      rw [← hu] at hE hun c1
                      have HU : Aside (u = nb F T len m jj) := hu
                      clear hu
                      have c2 := hS.row.cell hun
                      have f2 := hS.row.frozen u
                      have c3 := hS.row.cell hm
                      have hm0 := (hS.bfs.inq m (by simp)).2
                      have hsm := hS.bfs.small m hm hm0
                      have hjz : (jj : Int) < ((adj F T m len).length : Int) := by omega
                      have huz : (u : Int) < (n : Int) := by omega
                      by_cases hDu : D u < 0
                      · have hne : u ≠ m := fun e => by subst e; omega
                        have hqs : Qu (wr.setCell ⟨wA.heap.size, u, none⟩ (.int .i64 (D m + 1))) (wA.heap.size + 1) g off cq (m :: r) := hS.qu.setCell (by have := hS.qu.1; show g ≠ wA.heap.size; omega) _
                        have hrl : (m :: r).length ≤ 1000 := by have h1 := HG.out.1; omega
                        by_cases hmx : d < D m + 1
                        · have HM : Aside (max d (D m + 1) = D m + 1) := by show max d (D m + 1) = D m + 1; omega
                          go_wp2_with (at_builtin; refine wpList_append_queue _ rfl _ _ rfl (wA.heap.size + 1) g off cq (m :: r) (by rfl) u wr.heap.size (by simp [World.setCell]) (by rfl) hqs hrl ?_; intro g' off' cq' w1 hq1 hg1 _)
                          obtain ⟨hS1, hund1⟩ := hS.meet hun hE hDu hq1 hg1
                          have hG := HG.out
                          rw [HM.out] at hS1
                          have hmet1 := met_new hG.2 HU.out hDu hm0
                          clear hq1 hg1 hqs hS c1 c2 c3 f2 HG HM
                          go_wp2
                          go_roundg ((adj F T m len).length - (jj + 1))
                          case measure => go_light; omega
                          case rel =>
                            go_light
                            refine ⟨jj + 1, hjl, rfl, by go_num, g', off', cq', r ++ [u], upd D u (D m + 1), D m + 1, by simp, rfl, hS1, ?_, hmet1⟩
                            rw [hG.1, ← hund1]; rfl
                        · have HM : Aside (max d (D m + 1) = d) := by show max d (D m + 1) = d; omega
                          go_wp2_with (at_builtin; refine wpList_append_queue _ rfl _ _ rfl (wA.heap.size + 1) g off cq (m :: r) (by rfl) u wr.heap.size (by simp [World.setCell]) (by rfl) hqs hrl ?_; intro g' off' cq' w1 hq1 hg1 _)
                          obtain ⟨hS1, hund1⟩ := hS.meet hun hE hDu hq1 hg1
                          have hG := HG.out
                          rw [HM.out] at hS1
                          have hmet1 := met_new hG.2 HU.out hDu hm0
                          clear hq1 hg1 hqs hS c1 c2 c3 f2 HG HM
                          go_wp2
                          go_roundg ((adj F T m len).length - (jj + 1))
                          case measure => go_light; omega
                          case rel =>
                            go_light
                            refine ⟨jj + 1, hjl, rfl, by go_num, g', off', cq', r ++ [u], upd D u (D m + 1), d, by simp, rfl, hS1, ?_, hmet1⟩
                            rw [hG.1, ← hund1]; rfl
                      · have hDu0 : 0 ≤ D u := by omega
                        have hhd := hS.bfs.head m r rfl u hun hDu0
                        have hG := HG.out
                        have hmet1 := met_old hG.2 HU.out hDu0 hhd
                        have HGG : Aside ((gk = und D n + (m :: r).length) ∧ ∀ i, i < jj + 1 → 0 ≤ D (nb F T len m i) ∧ D (nb F T len m i) ≤ D m + 1) := ⟨hG.1, hmet1⟩
                        clear HG hG hmet1
                        go_wp2
                        go_roundg ((adj F T m len).length - (jj + 1))
                        case measure => go_light; omega
                        case rel => go_light; exact ⟨jj + 1, hjl, rfl, by go_num, g, off, cq, r, D, d, rfl, rfl, hS, HGG.out.1, HGG.out.2⟩
                    · obtain rfl : jj = (adj F T m len).length := by omega
                      have hG := HG.out
                      clear HG
                      by_cases h1c : 1 < cq
                      · have hS1 := hS.pop hG.2 h1c
                        have HGG : Aside (gk = und D n + r.length + 1) := hG.1
                        clear hG hS
                        have h1z : ¬ cq = 1 := by omega
                        go_wp2
                        go_roundg (und D n + r.length)
                        case measure => go_light; have := HGG.out; omega
                        case rel => go_light; exact ⟨g, off + 1, cq - 1, r, D, d, by simp, rfl, hS1, rfl, by have := HGG.out; omega⟩
                      · have hS1 := hS.pop0 hG.2 h1c
                        have hcq1 : 1 ≤ cq := by have h5 := hS.qu; obtain ⟨_, _, _, _, h4, _⟩ := h5; simp only [List.length_cons] at h4; omega
                        obtain rfl : cq = 1 := by omega
                        have HGG : Aside (gk = und D n + r.length + 1) := hG.1
                        clear hG hS
                        go_wp2
                        go_roundg (und D n + r.length)
                        case measure => go_light; have := HGG.out; omega
                        case rel => go_light; exact ⟨g, off, 0, r, D, d, by simp, rfl, hS1, rfl, by have := HGG.out; omega⟩
        · obtain rfl : n = s := by omega
          have hbE := (hbk.trans (hbs.mono (Nat.le_of_lt hbo)))
          clear hbs hbk hrD
          go_wp2
          go_ret
          exact ⟨d0, rfl, hdia, by omega, hbE⟩
end Go.Proofs.Qxb6003391a.Dia
