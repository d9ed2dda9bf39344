import Derived.Test.Qxb6603530aMain
import Derived.Test.Qxb6603530aMath2
namespace Go.Proofs.Qxb6603530a
open Go.ChangeShapes Go.WideShapes Go.ChangeAt Go.RowKit
open MapV

set_option maxRecDepth 100000 in
set_option maxHeartbeats 8000000 in
theorem main_any (a : Option Addr) (n cap : Nat) (E : Nat → Ev) (w : World) (hs : SlE w a n E) (hn : n ≤ maxLen) (hfit : Hid (∀ i, i < n → Fits (E i))) :
    Calls Try.prog 3 #[.slice a n cap] w fun e w' => e = .returned (.bool true) ∧ Below w.heap.size w w' := by
  have hn' : (n : Int) ≤ 9223372036854775807 := by unfold maxLen at hn; omega
  go_enter Try.func3, Try.ntmps3
  go_wp2_with fail
  refine (bytes_any a n cap E w hs hn).mono ?_
  rintro e w' ⟨r, rfl, rfl, hr⟩
  cases r with
  | false =>
    go_wp2
    go_ret
    exact ⟨rfl, Below.refl _ _⟩
  | true =>
    have HSm : Hid (∀ i, i < n → Small (E i)) := hr rfl
    clear hr
    by_cases h4 : 4096 < n
    · have h4' : (4096 : Int) < (n : Int) := by omega
      go_wp2
      go_ret
      exact ⟨rfl, Below.refl _ _⟩
    · have h4' : (n : Int) ≤ 4096 := by omega
      have hn4 : n ≤ 4096 := by omega
      clear h4 hn hn'
      go_wp2_with fail
      refine (addBytes_any a n cap E w hs hn4 HSm).mono ?_
      rintro e w1 ⟨t, rfl, hb1⟩
      by_cases ht : 1048576 < t
      · go_wp2
        go_ret
        exact ⟨rfl, hb1⟩
      · have ht' : t ≤ 1048576 := by omega
        have hs1 : SlE w1 a n E := by
          rcases hs with h | ⟨b, off, ha, hb, hc⟩
          · exact .inl h
          · exact .inr ⟨b, off, ha, Nat.lt_of_lt_of_le hb hb1.size, fun i hi j hj => by rw [hb1.cell (p := ⟨b, off + i * 6 + j, none⟩) hb]; exact hc i hi j hj⟩
        clear ht hs
        go_wp2_with fail
        refine (clone_any a n cap E w1 hs1 hn4).mono ?_
        rintro e w2 ⟨a2, cap2, rfl, hs2, hb2⟩
        have HB2 : Hid (Below w.heap.size w w2) := hb1.trans (hb2.mono hb1.size)
        clear hs1 hb1 hb2 ht'
        have HS0 : Hid (SS w2.heap.size (KS E n 0 0) w2 (w2.alloc (.cells #[.map none, .map none, .map none, .int .i64 0, .map none, .int .i64 0, .int .i32 0, .int .u32 0, .slice none 0 0, .map none, .slice none 0 0] 45))) := ⟨_, _, Sx.start w2, (Below.refl _ _).alloc (Nat.le_refl _) _⟩
        go_wp2
        obtain ⟨sB, hsB⟩ : ∃ t, t = w2.heap.size := ⟨_, rfl⟩
        obtain ⟨W0, hW⟩ : ∃ t, t = w2.alloc (.cells #[.map none, .map none, .map none, .int .i64 0, .map none, .int .i64 0, .int .i32 0, .int .u32 0, .slice none 0 0, .map none, .slice none 0 0] 45) := ⟨_, rfl⟩
        rw [← hW, ← hsB] at HS0
        rw [← hW, ← hsB]
        have HE : Hid (∀ W, Below sB w2 W → SlE W a2 n E) := fun W hW => by
          rcases hs2 with h0 | ⟨b', off', ha', hb', hc'⟩
          · exact .inl h0
          · exact .inr ⟨b', off', ha', Nat.lt_of_lt_of_le hb' hW.size, fun i hi j hj => by rw [hW.cell (p := ⟨b', off' + i * 6 + j, none⟩) (by rw [hsB]; exact hb')]; exact hc' i hi j hj⟩
        have HSB : Hid (sB = w2.heap.size) := hsB
        clear hW hsB hs2
        go_loopw [4] (fun t wr => ∃ r : Nat, r ≤ 2 ∧ t = .int .i64 (r : Int) ∧ SS sB (KS E n r 0) w2 wr) (fun t _ => 2 - (intOf t).toNat)
        case atStart => exact ⟨0, by omega, rfl, HS0.out⟩
        case round =>
          clear HS0
          obtain ⟨r, hr2, rfl, hS⟩ := hrel
          by_cases hr : r < 2
          · have ir : (r : Int) < 2 := by omega
            go_wp2
            go_loopw [5] (fun t wr => ∃ i : Nat, i ≤ n ∧ t = .int .i64 (i : Int) ∧ SS sB (KS E n r i) w2 wr) (fun t _ => n - (intOf t).toNat)
            case atStart => exact ⟨0, Nat.zero_le _, rfl, hS⟩
            case round =>
              clear hS
              obtain ⟨i, hi, rfl, hS⟩ := hrel
              by_cases hlt : i < n
              · have hSE : SlE wr a2 n E := by obtain ⟨_, _, _, hb⟩ := hS; exact HE.out wr hb
                rcases hSE with h0 | ⟨b, off, rfl, hb, hc⟩
                · omega
                · have c0 : wr.cell? ⟨b, off + i * 6, none⟩ = some (.string (E i).src) := hc i hlt 0 (by omega)
                  have c1 : wr.cell? ⟨b, off + i * 6 + 1, none⟩ = some (.string (E i).id) := hc i hlt 1 (by omega)
                  have c2 : wr.cell? ⟨b, off + i * 6 + 2, none⟩ = some (.string (E i).typ) := hc i hlt 2 (by omega)
                  have c3 : wr.cell? ⟨b, off + i * 6 + 3, none⟩ = some (.string (E i).subj) := hc i hlt 3 (by omega)
                  have c4 : wr.cell? ⟨b, off + i * 6 + 4, none⟩ = some (.string (E i).clu) := hc i hlt 4 (by omega)
                  have c5 : wr.cell? ⟨b, off + i * 6 + 5, none⟩ = some (.int .u8 (E i).role) := hc i hlt 5 (by omega)
                  have ii : (i : Int) < (n : Int) := by omega
                  clear hc
                  go_wp2_with (first
                    | (go_at_call 9; refine (event_any (E i) _).mono ?_; rintro e w3 ⟨rfl, hb3⟩)
                    | (go_at_call 8; refine ((hS.beneath hb3).add hlt hn4 (hfit.out i hlt)).mono ?_; rintro e w4 ⟨rfl, hS4⟩))
                  go_roundw
                  case rel => exact ⟨i + 1, hlt, by go_num, hS4⟩
                  case measure => simp [intOf]; omega
              · obtain rfl : i = n := by omega
                have hk : KS E i r i = KS E i (r + 1) 0 := by
                  by_cases h0 : r = 0
                  · subst h0; simp [KS]
                  · simp [KS, h0]
                rw [hk] at hS
                clear hk
                go_wp2
                go_roundw
                case rel => exact ⟨r + 1, hr, by go_num, hS⟩
                case measure => simp [intOf]; omega
          · obtain rfl : r = 2 := by omega
            have hS2 : SS sB (KK E n) w2 wr := hS
            have hSE : SlE wr a2 n E := by obtain ⟨_, _, _, hb⟩ := hS2; exact HE.out wr hb
            clear hS
            go_wp2_with fail
            refine (first_any a2 n cap2 E wr hSE hn4).mono ?_
            rintro e w5 ⟨rfl, hrow, hb5⟩
            go_wp2
            obtain ⟨fB, hfB⟩ : ∃ t, t = wr.heap.size := ⟨_, rfl⟩
            rw [← hfB] at hrow
            rw [← hfB]
            have BW : Hid (Below w.heap.size w w5) := by
              obtain ⟨_, _, _, hb⟩ := hS2
              have h1 : Below w.heap.size w wr := HB2.out.trans (hb.mono (by rw [HSB.out]; exact HB2.out.size))
              exact h1.trans (hb5.mono h1.size)
            have SC : Hid (Script a2 n fB E w5) := by
              refine ⟨?_, hrow⟩
              rcases hSE with h0 | ⟨b', off', ha', hb', hc'⟩
              · exact .inl h0
              · exact .inr ⟨b', off', ha', Nat.lt_of_lt_of_le hb' hb5.size, fun i hi j hj => by rw [hb5.cell (p := ⟨b', off' + i * 6 + j, none⟩) hb']; exact hc' i hi j hj⟩
            obtain ⟨τ, x, hX, _⟩ := hS2.beneath hb5
            have HX : Hid (Sx sB τ x (KK E n) (KK E n) (KK E n) ((KK E n).length : Int) w5) := hX
            clear hX hfB hrow hSE hb5 hS2 HE HSB HB2 hr2 hr
            go_loopw [7, 8, 9, 10, 11, 12] (fun k1 k2 k3 k4 k5 t wq => ∃ i A B C D F : Nat, i ≤ n ∧ t = .int .i64 (i : Int) ∧ k1 = .int .i64 (A : Int) ∧ k2 = .int .i64 (B : Int) ∧ k3 = .int .i64 (C : Int) ∧ k4 = .int .i64 (D : Int) ∧ k5 = .int .i64 (F : Int) ∧ Hid (Cnt E i A B C D F) ∧ Below w5.heap.size w5 wq) (fun _ _ _ _ _ t _ => n - (intOf t).toNat)
            case atStart => exact ⟨0, 0, 0, 0, 0, 0, Nat.zero_le _, rfl, rfl, rfl, rfl, rfl, rfl, ⟨rfl, rfl, rfl, rfl, rfl⟩, Below.refl _ _⟩
            case round =>
              obtain ⟨i, A, B, C, D, F, hi, rfl, rfl, rfl, rfl, rfl, rfl, HC, hB⟩ := hrel
              by_cases hlt : i < n
              · obtain ⟨b, off, rfl, c0, c1, c2, c3, c4, c5, f0⟩ := (SC.out.below hB).at hlt
                obtain ⟨y1, y2, y3, y4, y5⟩ := HC.out.le
                have hsz := hB.size
                have ii : (i : Int) < (n : Int) := by omega
                cases hf : firstB E i with
                | false =>
                  rw [hf] at f0
                  have HC' : Hid (Cnt E (i + 1) A B C D F) := HC.out.skip hf
                  go_wp2
                  go_roundw
                  case rel => exact ⟨i + 1, A, B, C, D, F, hlt, by go_num, by go_num, by go_num, by go_num, by go_num, by go_num, HC', hB⟩
                  case measure => simp [intOf]; omega

                | true =>
                  rw [hf] at f0
                  have hBn : Below w5.heap.size w5 (wr.alloc (.cells #[.string (E i).src, .string (E i).id, .string (E i).typ, .string (E i).subj, .string (E i).clu, .int .u8 (E i).role] 59)) := hB.alloc hsz _
                  cases hnd : ((E i).typ.toList == kStarted || (E i).typ.toList == kStopped) with
                  | true =>
                    have HND : Hid (((E i).typ.toList == kStarted || (E i).typ.toList == kStopped) = true) := hnd
                    have hnx := nd_kinds (e := E i) hnd
                    have hex : ((E i).typ.toList == kExecuted) = false := hnx.1
                    have HSV : Hid (((E i).typ.toList == kDeployed || (E i).typ.toList == kInstances) = false) := hnx.2
                    clear hnx hnd
                    go_wp2_with (go_at_call 11; refine (isNode_is (E i).typ true HND.out _).mono ?_; rintro e w' ⟨rfl, rfl⟩)
                    obtain ⟨WB, hWB⟩ : ∃ t, t = wr.alloc (.cells #[.string (E i).src, .string (E i).id, .string (E i).typ, .string (E i).subj, .string (E i).clu, .int .u8 (E i).role] 59) := ⟨_, rfl⟩
                    obtain ⟨eB, heB⟩ : ∃ t, t = wr.heap.size := ⟨_, rfl⟩
                    have KB : Hid (∀ wz, Below WB.heap.size WB wz → wz.cell? ⟨eB, 2, none⟩ = some (.string (E i).typ) ∧ wz.cell? ⟨eB, 3, none⟩ = some (.string (E i).subj) ∧ wz.cell? ⟨eB, 4, none⟩ = some (.string (E i).clu)) := by
                      rw [hWB, heB]
                      exact fun wz hz => ⟨box_behind hz 2 _ rfl, box_behind hz 3 _ rfl, box_behind hz 4 _ rfl⟩
                    rw [← hWB] at hBn
                    rw [← hWB, ← heB]
                    clear hWB heB c0 c1 c2 c3 c4 c5 f0
                    go_loopw [14, 15] (fun tf tj wz => ∃ j : Nat, j ≤ i ∧ tf = .bool true ∧ tj = .int .i64 (j : Int) ∧ Below WB.heap.size WB wz ∧ Hid (∀ q, q < j → atNode E (E i).clu (E i).subj q = false)) (fun _ tj _ => i - (intOf tj).toNat)
                    case atStart => exact ⟨0, Nat.zero_le _, rfl, rfl, Below.refl _ _, fun q hq => absurd hq (by omega)⟩
                    case round => as_aux_lemma =>
                      obtain ⟨j, hj, rfl, rfl, hBz, HNO⟩ := hrel
                      obtain ⟨k2, k3, k4⟩ := KB.out _ hBz
                      have hB5 : Below w5.heap.size w5 wr := hBn.trans (hBz.mono hBn.size)
                      by_cases hji : j < i
                      · obtain ⟨b', off', hab, d0, d1, d2, d3, d4, d5, g0⟩ := (SC.out.below hB5).at (show j < n by omega)
                        injection hab with hab
                        injection hab with e1 e2
                        subst e1 e2
                        have ij : (j : Int) < (i : Int) := by omega
                        have ijn : (j : Int) < (n : Int) := by omega
                        have NO : Hid (atNode E (E i).clu (E i).subj j = false → ∀ q, q < j + 1 → atNode E (E i).clu (E i).subj q = false) := fun hh q hq => by
                          by_cases eq : q = j
                          · rw [eq]; exact hh
                          · exact HNO.out q (by omega)
                        clear d0 d1 d5
                        cases gf : firstB E j with
                        | false =>
                          rw [gf] at g0
                          have HNO' : Hid (∀ q, q < j + 1 → atNode E (E i).clu (E i).subj q = false) := NO.out (by simp [atNode, gf])
                          go_wp2
                          go_quiet (fail)
                          go_wp2
                          go_roundw
                          case rel => exact ⟨j + 1, hji, rfl, by go_num, below_drewN hBz _, HNO'⟩
                          case measure => simp [intOf]; omega
                        | true =>
                          rw [gf] at g0
                          cases gn : ((E j).typ.toList == kStarted || (E j).typ.toList == kStopped) with
                          | false =>
                            have HNO' : Hid (∀ q, q < j + 1 → atNode E (E i).clu (E i).subj q = false) := NO.out (by simp [atNode, sameNode, isNd, gn])
                            have HGN : Hid (((E j).typ.toList == kStarted || (E j).typ.toList == kStopped) = false) := gn
                            clear gn
                            go_wp2
                            go_quiet ((go_at_call 11; exact Calls.quiet_of_same (isNode_is (E j).typ false HGN.out _)))
                            go_wp2
                            go_roundw
                            case rel => exact ⟨j + 1, hji, rfl, by go_num, below_drewN hBz _, HNO'⟩
                            case measure => simp [intOf]; omega
                          | true =>
                            have HGN : Hid (((E j).typ.toList == kStarted || (E j).typ.toList == kStopped) = true) := gn
                            clear gn
                            cases gc : ((E j).clu.toList == (E i).clu.toList) with
                            | false =>
                              have HNO' : Hid (∀ q, q < j + 1 → atNode E (E i).clu (E i).subj q = false) := NO.out (by simp [atNode, sameNode, gc])
                              go_wp2
                              go_quiet ((go_at_call 11; exact Calls.quiet_of_same (isNode_is (E j).typ true HGN.out _)))
                              go_wp2
                              go_roundw
                              case rel => exact ⟨j + 1, hji, rfl, by go_num, below_drewN hBz _, HNO'⟩
                              case measure => simp [intOf]; omega
                            | true =>
                              cases gs : ((E j).subj.toList == (E i).subj.toList) with
                              | false =>
                                have HNO' : Hid (∀ q, q < j + 1 → atNode E (E i).clu (E i).subj q = false) := NO.out (by simp [atNode, sameNode, gs])
                                go_wp2
                                go_quiet ((go_at_call 11; exact Calls.quiet_of_same (isNode_is (E j).typ true HGN.out _)))
                                go_wp2
                                go_roundw
                                case rel => exact ⟨j + 1, hji, rfl, by go_num, below_drewN hBz _, HNO'⟩
                                case measure => simp [intOf]; omega
                              | true =>
                                have HC' : Hid (Cnt E (i + 1) (A + 1) (B + 1) C D F) := HC.out.nodeOld hf HND.out (fun e0 => by
                                  have h1 := ofNode_nil.1 e0 j hji
                                  have h2 := HGN.out
                                  simp [atNode, sameNode, isNd, gf, h2, gc, gs] at h1)
                                go_wp2
                                go_quiet ((go_at_call 11; exact Calls.quiet_of_same (isNode_is (E j).typ true HGN.out _)))
                                go_wp2_with (go_at_call 13; refine (isSvc_is (E i).typ false HSV.out _).mono ?_; rintro e w' ⟨rfl, rfl⟩)
                                go_roundw
                                case rel => exact ⟨i + 1, A + 1, B + 1, C, D, F, hlt, by go_num, by go_num, by go_num, by go_num, by go_num, by go_num, HC', below_drewN hB5 _⟩
                                case measure => simp [intOf]; omega
                      · obtain rfl : j = i := by omega
                        have hemp : ofNode (KK E j) (E j).clu (E j).subj = [] := ofNode_nil.2 HNO.out
                        have HC' : Hid (Cnt E (j + 1) (A + 1) (B + 1) (C + 1) D F) := HC.out.node hf HND.out hemp
                        have HEM : Hid (ofNode (KK E j) (E j).clu (E j).subj = []) := hemp
                        have HAT : Hid (atNode E (E j).clu (E j).subj j = true) := by
                          have h2 := HND.out
                          show atNode E (E j).clu (E j).subj j = true
                          simp [atNode, sameNode, isNd, hf, h2]
                        have hfit' := hfit.out j hlt
                        clear hemp
                        go_wp2_with (first
                          | (go_at_call 12; refine (holds_any sB τ x _ E b off n cap2 fB j _ (HX.out.beneath hB5) (SC.out.below hB5) hlt hn4 hfit'.2.2.2.2 hfit'.2.2.2.1 HAT HEM).mono ?_; rintro e w6 ⟨rfl, hb6⟩; have hBz6 : Below WB.heap.size WB w6 := hBz.trans (hb6.mono hBz.size); obtain ⟨kk2, kk3, kk4⟩ := KB.out _ hBz6)
                          | (go_at_call 13; refine (isSvc_is (E j).typ false HSV.out _).mono ?_; rintro e w' ⟨rfl, rfl⟩))
                        go_roundw
                        case rel => exact ⟨j + 1, A + 1, B + 1, C + 1, D, F, hlt, by go_num, by go_num, by go_num, by go_num, by go_num, by go_num, HC', hBn.trans (hBz6.mono hBn.size)⟩
                        case measure => simp [intOf]; omega

                  | false =>

                    have HND : Hid (((E i).typ.toList == kStarted || (E i).typ.toList == kStopped) = false) := hnd
                    clear hnd
                    cases hex : ((E i).typ.toList == kExecuted) with
                    | true =>
                      have HSV : Hid (((E i).typ.toList == kDeployed || (E i).typ.toList == kInstances) = false) := (ex_kinds (e := E i) hex).2
                      have HC' : Hid (Cnt E (i + 1) (A + 1) B C (D + 1) F) := HC.out.exec hf hex
                      go_wp2_with (first
                        | (go_at_call 11; refine (isNode_is (E i).typ false HND.out _).mono ?_; rintro e w' ⟨rfl, rfl⟩)
                        | (go_at_call 13; refine (isSvc_is (E i).typ false HSV.out _).mono ?_; rintro e w' ⟨rfl, rfl⟩))
                      go_roundw
                      case rel => exact ⟨i + 1, A + 1, B, C, D + 1, F, hlt, by go_num, by go_num, by go_num, by go_num, by go_num, by go_num, HC', hBn⟩
                      case measure => simp [intOf]; omega
                    | false =>
                      cases hsv : ((E i).typ.toList == kDeployed || (E i).typ.toList == kInstances) with
                      | false =>
                        have HSV : Hid (((E i).typ.toList == kDeployed || (E i).typ.toList == kInstances) = false) := hsv
                        have HC' : Hid (Cnt E (i + 1) (A + 1) B C D F) := HC.out.none hf HND.out hex hsv
                        clear hsv
                        go_wp2_with (first
                          | (go_at_call 11; refine (isNode_is (E i).typ false HND.out _).mono ?_; rintro e w' ⟨rfl, rfl⟩)
                          | (go_at_call 13; refine (isSvc_is (E i).typ false HSV.out _).mono ?_; rintro e w' ⟨rfl, rfl⟩))
                        go_roundw
                        case rel => exact ⟨i + 1, A + 1, B, C, D, F, hlt, by go_num, by go_num, by go_num, by go_num, by go_num, by go_num, HC', hBn⟩
                        case measure => simp [intOf]; omega
                      | true =>
                        have HSV : Hid (((E i).typ.toList == kDeployed || (E i).typ.toList == kInstances) = true) := hsv
                        clear hsv
                        go_wp2_with (first
                          | (go_at_call 11; refine (isNode_is (E i).typ false HND.out _).mono ?_; rintro e w' ⟨rfl, rfl⟩)
                          | (go_at_call 13; refine (isSvc_is (E i).typ true HSV.out _).mono ?_; rintro e w' ⟨rfl, rfl⟩))
                        obtain ⟨WB, hWB⟩ : ∃ t, t = wr.alloc (.cells #[.string (E i).src, .string (E i).id, .string (E i).typ, .string (E i).subj, .string (E i).clu, .int .u8 (E i).role] 59) := ⟨_, rfl⟩
                        obtain ⟨eB, heB⟩ : ∃ t, t = wr.heap.size := ⟨_, rfl⟩
                        have KB : Hid (∀ wz, Below WB.heap.size WB wz → wz.cell? ⟨eB, 3, none⟩ = some (.string (E i).subj)) := by
                          rw [hWB, heB]
                          exact fun wz hz => box_behind hz 3 _ rfl
                        rw [← hWB] at hBn
                        rw [← hWB, ← heB]
                        clear hWB heB c0 c1 c2 c3 c4 c5 f0
                        go_loopw [16, 17] (fun tf tj wz => ∃ j : Nat, j ≤ i ∧ tf = .bool true ∧ tj = .int .i64 (j : Int) ∧ Below WB.heap.size WB wz ∧ Hid (∀ q, q < j → atSvc E (E i).subj q = false)) (fun _ tj _ => i - (intOf tj).toNat)
                        case atStart => exact ⟨0, Nat.zero_le _, rfl, rfl, Below.refl _ _, fun q hq => absurd hq (by omega)⟩
                        case round => as_aux_lemma =>
                          obtain ⟨j, hj, rfl, rfl, hBz, HNO⟩ := hrel
                          have k3 := KB.out _ hBz
                          have hB5 : Below w5.heap.size w5 wr := hBn.trans (hBz.mono hBn.size)
                          by_cases hji : j < i
                          · obtain ⟨b', off', hab, d0, d1, d2, d3, d4, d5, g0⟩ := (SC.out.below hB5).at (show j < n by omega)
                            injection hab with hab
                            injection hab with e1 e2
                            subst e1 e2
                            have ij : (j : Int) < (i : Int) := by omega
                            have ijn : (j : Int) < (n : Int) := by omega
                            have NO : Hid (atSvc E (E i).subj j = false → ∀ q, q < j + 1 → atSvc E (E i).subj q = false) := fun hh q hq => by
                              by_cases eq : q = j
                              · rw [eq]; exact hh
                              · exact HNO.out q (by omega)
                            clear d0 d1 d4 d5
                            cases gf : firstB E j with
                            | false =>
                              rw [gf] at g0
                              have HNO' : Hid (∀ q, q < j + 1 → atSvc E (E i).subj q = false) := NO.out (by simp [atSvc, gf])
                              go_wp2
                              go_quiet (fail)
                              go_wp2
                              go_roundw
                              case rel => exact ⟨j + 1, hji, rfl, by go_num, below_drewN hBz _, HNO'⟩
                              case measure => simp [intOf]; omega
                            | true =>
                              rw [gf] at g0
                              cases gn : ((E j).typ.toList == kDeployed || (E j).typ.toList == kInstances) with
                              | false =>
                                have HNO' : Hid (∀ q, q < j + 1 → atSvc E (E i).subj q = false) := NO.out (by simp [atSvc, isSv, gn])
                                have HGN : Hid (((E j).typ.toList == kDeployed || (E j).typ.toList == kInstances) = false) := gn
                                clear gn
                                go_wp2
                                go_quiet ((go_at_call 13; exact Calls.quiet_of_same (isSvc_is (E j).typ false HGN.out _)))
                                go_wp2
                                go_roundw
                                case rel => exact ⟨j + 1, hji, rfl, by go_num, below_drewN hBz _, HNO'⟩
                                case measure => simp [intOf]; omega
                              | true =>
                                have HGN : Hid (((E j).typ.toList == kDeployed || (E j).typ.toList == kInstances) = true) := gn
                                clear gn
                                cases gs : ((E j).subj.toList == (E i).subj.toList) with
                                | false =>
                                  have HNO' : Hid (∀ q, q < j + 1 → atSvc E (E i).subj q = false) := NO.out (by simp [atSvc, gs])
                                  go_wp2
                                  go_quiet ((go_at_call 13; exact Calls.quiet_of_same (isSvc_is (E j).typ true HGN.out _)))
                                  go_wp2
                                  go_roundw
                                  case rel => exact ⟨j + 1, hji, rfl, by go_num, below_drewN hBz _, HNO'⟩
                                  case measure => simp [intOf]; omega
                                | true =>
                                  have HC' : Hid (Cnt E (i + 1) (A + 1) B C D F) := HC.out.svcOld hf HND.out hex HSV.out (fun e0 => by
                                    have h1 := svc_nil.1 e0 j hji
                                    have h2 := HGN.out
                                    simp [atSvc, isSv, gf, h2, gs] at h1)
                                  go_wp2
                                  go_quiet ((go_at_call 13; exact Calls.quiet_of_same (isSvc_is (E j).typ true HGN.out _)))
                                  go_wp2
                                  go_roundw
                                  case rel => exact ⟨i + 1, A + 1, B, C, D, F, hlt, by go_num, by go_num, by go_num, by go_num, by go_num, by go_num, HC', below_drewN hB5 _⟩
                                  case measure => simp [intOf]; omega
                          · obtain rfl : j = i := by omega
                            have h00 := svc_nil.2 HNO.out
                            have HC' : Hid (Cnt E (j + 1) (A + 1) B C D (F + 1)) := HC.out.svc hf HND.out hex HSV.out h00
                            have H00 : Hid (nDep (KK E j) (E j).subj = 0 ∧ nIns (KK E j) (E j).subj = 0) := ⟨by omega, by omega⟩
                            have HPOS : Hid (0 < nDep (KK E n) (E j).subj + nIns (KK E n) (E j).subj) := by
                              have : nDep (KK E n) (E j).subj + nIns (KK E n) (E j).subj ≠ 0 := fun e0 => by
                                have h1 := svc_nil.1 e0 j hlt
                                have h2 := HSV.out
                                simp [atSvc, isSv, hf, h2] at h1
                              exact Nat.pos_of_ne_zero this
                            have hfit' := hfit.out j hlt
                            clear h00
                            go_wp2
                            go_loopw [18, 19, 20] (fun td ts tq wz => ∃ q d e : Nat, j ≤ q ∧ q ≤ n ∧ td = .int .i64 (d : Int) ∧ ts = .int .i64 (e : Int) ∧ tq = .int .i64 (q : Int) ∧ Hid (nDep (KK E q) (E j).subj = d ∧ nIns (KK E q) (E j).subj = e) ∧ Below WB.heap.size WB wz) (fun _ _ tq _ => n - (intOf tq).toNat)
                            case atStart => exact ⟨j, 0, 0, Nat.le_refl _, hi, rfl, rfl, rfl, H00.out, hBz⟩
                            case round => as_aux_lemma =>
                              obtain ⟨q, d, e, hjq, hqn, rfl, rfl, rfl, HDE, hBq⟩ := hrel
                              have k3 := KB.out _ hBq
                              have hB6 : Below w5.heap.size w5 wr := hBn.trans (hBq.mono hBn.size)
                              have yd : d ≤ q := by rw [← HDE.out.1]; exact dep_le E _ q
                              have ye : e ≤ q := by rw [← HDE.out.2]; exact ins_le E _ q
                              by_cases hql : q < n
                              · obtain ⟨b', off', hab, d0, d1, d2, d3, d4, d5, g0⟩ := (SC.out.below hB6).at hql
                                injection hab with hab
                                injection hab with e1 e2
                                subst e1 e2
                                have iq : (q : Int) < (n : Int) := by omega
                                clear d0 d1 d4 d5
                                cases gf : firstB E q with
                                | false =>
                                  rw [gf] at g0
                                  have HDE' : Hid (nDep (KK E (q + 1)) (E j).subj = d ∧ nIns (KK E (q + 1)) (E j).subj = e) := by
                                    refine ⟨?_, ?_⟩
                                    · rw [nDep_next, HDE.out.1]; simp [gf]
                                    · rw [nIns_next, HDE.out.2]; simp [gf]
                                  go_wp2
                                  go_quiet (fail)
                                  go_wp2
                                  go_roundw
                                  case rel => exact ⟨q + 1, d, e, by omega, hql, by go_num, by go_num, by go_num, HDE', below_drewN hBq _⟩
                                  case measure => simp [intOf]; omega
                                | true =>
                                  rw [gf] at g0
                                  cases gs : ((E q).subj.toList == (E j).subj.toList) with
                                  | false =>
                                    have HDE' : Hid (nDep (KK E (q + 1)) (E j).subj = d ∧ nIns (KK E (q + 1)) (E j).subj = e) := by
                                      refine ⟨?_, ?_⟩
                                      · rw [nDep_next, HDE.out.1]; simp [gs]
                                      · rw [nIns_next, HDE.out.2]; simp [gs]
                                    go_wp2
                                    go_quiet (fail)
                                    go_wp2
                                    go_roundw
                                    case rel => exact ⟨q + 1, d, e, by omega, hql, by go_num, by go_num, by go_num, HDE', below_drewN hBq _⟩
                                    case measure => simp [intOf]; omega
                                  | true =>
                                    cases gd : ((E q).typ.toList == kDeployed) with
                                    | true =>
                                      have gi : ((E q).typ.toList == kInstances) = false := by
                                        have ht : (E q).typ.toList = kDeployed := by simpa using gd
                                        simp [ht]
                                      have gd' : isDep (E q) = true := gd
                                      have gi' : isIns (E q) = false := gi
                                      have HDE' : Hid (nDep (KK E (q + 1)) (E j).subj = (d + 1) ∧ nIns (KK E (q + 1)) (E j).subj = e) := by
                                        refine ⟨?_, ?_⟩
                                        · rw [nDep_next, HDE.out.1]; simp [gf, gs, gd']
                                        · rw [nIns_next, HDE.out.2]; simp [gf, gs, gi']
                                      go_wp2
                                      go_quiet (fail)
                                      go_wp2
                                      go_roundw
                                      case rel => exact ⟨q + 1, (d + 1), e, by omega, hql, by go_num, by go_num, by go_num, HDE', below_drewN hBq _⟩
                                      case measure => simp [intOf]; omega
                                    | false =>
                                      cases gi : ((E q).typ.toList == kInstances) with
                                      | true =>
                                        have gd' : isDep (E q) = false := gd
                                        have gi' : isIns (E q) = true := gi
                                        have HDE' : Hid (nDep (KK E (q + 1)) (E j).subj = d ∧ nIns (KK E (q + 1)) (E j).subj = (e + 1)) := by
                                          refine ⟨?_, ?_⟩
                                          · rw [nDep_next, HDE.out.1]; simp [gf, gs, gd']
                                          · rw [nIns_next, HDE.out.2]; simp [gf, gs, gi']
                                        go_wp2
                                        go_quiet (fail)
                                        go_wp2
                                        go_roundw
                                        case rel => exact ⟨q + 1, d, (e + 1), by omega, hql, by go_num, by go_num, by go_num, HDE', below_drewN hBq _⟩
                                        case measure => simp [intOf]; omega
                                      | false =>
                                        have gd' : isDep (E q) = false := gd
                                        have gi' : isIns (E q) = false := gi
                                        have HDE' : Hid (nDep (KK E (q + 1)) (E j).subj = d ∧ nIns (KK E (q + 1)) (E j).subj = e) := by
                                          refine ⟨?_, ?_⟩
                                          · rw [nDep_next, HDE.out.1]; simp [gf, gs, gd']
                                          · rw [nIns_next, HDE.out.2]; simp [gf, gs, gi']
                                        go_wp2
                                        go_quiet (fail)
                                        go_wp2
                                        go_roundw
                                        case rel => exact ⟨q + 1, d, e, by omega, hql, by go_num, by go_num, by go_num, HDE', below_drewN hBq _⟩
                                        case measure => simp [intOf]; omega
                              · obtain rfl : q = n := by omega
                                obtain ⟨rfl, rfl⟩ := HDE.out
                                go_wp2_with (go_at_call 14; refine (service_read (HX.out.beneath hB6) (E j).subj hfit'.2.2.2.1 HPOS.out).mono ?_; rintro e w7 ⟨rfl, hb7⟩)
                                go_roundw
                                case rel => exact ⟨j + 1, A + 1, B, C, D, F + 1, hlt, by go_num, by go_num, by go_num, by go_num, by go_num, by go_num, HC', hB6.trans (hb7.mono hB6.size)⟩
                                case measure => simp [intOf]; omega

              · obtain rfl : i = n := by omega
                have HXq := HX.out.beneath hB
                obtain ⟨rfl, rfl, rfl, rfl, rfl⟩ := HC.out
                go_wp2_with (first
                  | (go_at_call 15; refine (len_any HXq).mono ?_; rintro e w' ⟨rfl, rfl⟩)
                  | (go_at_call 16; refine (nodeLen_any HXq).mono ?_; rintro e w' ⟨rfl, rfl⟩)
                  | (go_at_call 17; refine (nodeCount_any HXq).mono ?_; rintro e w' ⟨rfl, rfl⟩)
                  | (go_at_call 18; refine (unsettled_any HXq).mono ?_; rintro e w' ⟨rfl, rfl⟩)
                  | (go_at_call 19; refine (execs_any HXq).mono ?_; rintro e w' ⟨rfl, rfl⟩)
                  | (go_at_call 20; refine (svcCount_any HXq).mono ?_; rintro e w' ⟨rfl, rfl⟩))
                go_ret
                exact ⟨rfl, BW.out.trans (hB.mono BW.out.size)⟩
end Go.Proofs.Qxb6603530a
