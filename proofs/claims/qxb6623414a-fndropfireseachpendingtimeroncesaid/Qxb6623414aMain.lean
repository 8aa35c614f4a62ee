import Derived.Test.Qxb6623414aFacts
import Derived.Deep.DeepCutAuto
import Derived.BigRegion
namespace Go.Proofs.Qxb6623414a
open Go.RowKit Go.Maps

theorem trueIs : Ending.returned (.bool true) = .returned (.bool true) := rfl

set_option maxRecDepth 100000 in
set_option maxHeartbeats 10000000 in
theorem main_any (a0 a1 a2 : Option Addr) (n0 n1 n2 c0 c1 c2 : Nat) (s0 s2 : Nat → ByteArray) (s1 : Nat → Int) (p0 p1 : Nat → Bool) (w : World) (h0 : IsTimers w a0 n0 s0 p0) (h1 : IsStarts w a1 n1 s1 p1) (h2 : IsStrs w a2 n2 s2)
    (hn0 : n0 ≤ maxLen) (hn1 : n1 ≤ maxLen) (hn2 : n2 ≤ maxLen) (z0 : ∀ i, i < n0 → (s0 i).size ≤ maxLen) (z2 : ∀ i, i < n2 → (s2 i).size ≤ maxLen) (z1 : ∀ i, i < n1 → (Lit.int .i64 (s1 i)).wf = true) :
    Calls Try.prog 3 #[.slice a0 n0 c0, .slice a1 n1 c1, .slice a2 n2 c2] w fun e w' => e = .returned (.bool true) ∧ Below w.heap.size w w' := by
  go_enter Try.func3, Try.ntmps3
  go_wp2_with fail
  refine (bytes_any a0 a1 a2 n0 n1 n2 c0 c1 c2 s0 s2 p0 _ h0 h2 hn0 hn1 hn2 z0 z2).mono ?_
  rintro e w' ⟨⟨b, rfl⟩, hw⟩
  have hw2 : w = w' := hw.symm
  clear hw
  subst hw2
  cases b
  · go_wp2
    go_ret
    exact ⟨rfl, Below.refl _ _⟩
  by_cases l0 : n0 ≤ 4096
  rotate_left
  · go_wp2
    all_goals (go_ret; exact ⟨rfl, Below.refl _ _⟩)
  by_cases l1 : n1 ≤ 4096
  rotate_left
  · go_wp2
    all_goals (go_ret; exact ⟨rfl, Below.refl _ _⟩)
  by_cases l2 : n2 ≤ 4096
  rotate_left
  · go_wp2
    all_goals (go_ret; exact ⟨rfl, Below.refl _ _⟩)
  go_wp2
  go_loop [7, 8] (fun t i => ∃ (z : Int) (k : Nat), k ≤ n0 ∧ t = .int .i64 z ∧ i = .int .i64 k) (fun _ i => n0 - (intOf i).toNat)
  case atStart => exact ⟨_, 0, Nat.zero_le _, rfl, rfl⟩
  case round =>
    obtain ⟨z, k, hk, rfl, rfl⟩ := hrel
    by_cases hlt : k < n0
    · rcases h0 with rfl | ⟨b, off, rfl, hc⟩
      · omega
      · obtain ⟨hc0, hc1⟩ := hc k (by omega)
        have hz := z0 k hlt
        clear hc
        unfold maxLen at hz
        go_wp2
        all_goals first | (go_ret; exact ⟨rfl, Below.refl _ _⟩) | skip
        go_round
        case rel => exact ⟨_, k + 1, by omega, rfl, by go_num⟩
        case measure => simp [intOf]; omega
    · go_wp2
      go_loop [7, 10] (fun t i => ∃ (z : Int) (k : Nat), k ≤ n1 ∧ t = .int .i64 z ∧ i = .int .i64 k) (fun _ i => n1 - (intOf i).toNat)
      case atStart => exact ⟨_, 0, Nat.zero_le _, rfl, rfl⟩
      case round =>
        obtain ⟨z, k', hk', rfl, rfl⟩ := hrel
        by_cases hlt' : k' < n1
        · go_wp2
          all_goals first | (go_ret; exact ⟨rfl, Below.refl _ _⟩) | skip
          go_round
          case rel => exact ⟨_, k' + 1, by omega, rfl, by go_num⟩
          case measure => simp [intOf]; omega
        · go_wp2
          go_loop [7, 11] (fun t i => ∃ (z : Int) (k : Nat), k ≤ n2 ∧ t = .int .i64 z ∧ i = .int .i64 k) (fun _ i => n2 - (intOf i).toNat)
          case atStart => exact ⟨_, 0, Nat.zero_le _, rfl, rfl⟩
          case round =>
            obtain ⟨z, k'', hk'', rfl, rfl⟩ := hrel
            by_cases hlt'' : k'' < n2
            · rcases h2 with rfl | ⟨b, off, rfl, hc⟩
              · omega
              · have hc0 := hc k'' (by omega)
                have hz := z2 k'' hlt''
                clear hc
                unfold maxLen at hz
                go_wp2
                all_goals first | (go_ret; exact ⟨rfl, Below.refl _ _⟩) | skip
                go_round
                case rel => exact ⟨_, k'' + 1, by omega, rfl, by go_num⟩
                case measure => simp [intOf]; omega
            · have hmm := @run_makeMap Try.prog
              go_upto_if 98 with (fail)
              go_cut [13] (fun m wc => ∃ r, m = .map r ∧ Below w.heap.size w wc ∧ TabS w wc s0 p0 n0 s2 0 r)
              case first =>
                by_cases hz : n0 = 0
                · subst hz
                  go_wp2
                  go_meet
                  case rel => exact ⟨none, rfl, Below.refl _ _, by rw [TabS, vQ_zero]; exact ⟨HasTab.nil _ _ _, fun _ h => by cases h⟩⟩
                · have hpos : 0 < n0 := by omega
                  go_wp2
                  go_loopw [14] (fun i wr => ∃ k : Nat, k ≤ n0 ∧ i = .int .i64 k ∧ Below w.heap.size w wr ∧ HasTab litS wr (some w.heap.size) k 9 (hS s0 k) (vS s0 p0 k) (dS s0 k)) (fun i _ => n0 - (intOf i).toNat)
                  case atStart => exact ⟨0, Nat.zero_le _, rfl, (Below.refl _ _).alloc (Nat.le_refl _) _, HasTab.made _ _ _⟩
                  case round =>
                    obtain ⟨j, hj, rfl, hbel, HT⟩ := hrel
                    by_cases hjlt : j < n0
                    · rcases h0.below hbel with rfl | ⟨b, off, rfl, hc⟩
                      · omega
                      · obtain ⟨hc0, hc1⟩ := hc j hjlt
                        obtain ⟨w1, hrun, hbel1, HT1⟩ := fillS HT (by unfold maxLen; omega) (z0 j hjlt) hbel (Nat.le_refl _)
                        clear hc
                        go_wp2
                        go_region
                        go_wp2
                        go_roundw
                        case rel => exact ⟨j + 1, by omega, by go_num, hbel1, HT1⟩
                        case measure => simp [intOf]; omega
                    · have : j = n0 := by omega
                      subst this
                      go_wp2
                      go_meet
                      case rel => exact ⟨some w.heap.size, rfl, hbel, by rw [TabS, vQ_zero]; exact ⟨HT, fun _ h => by cases h; exact Nat.le_refl _⟩⟩
              case rest =>
                obtain ⟨r, rfl, hbel, HT⟩ := hcut
                obtain ⟨W1, hW1⟩ : ∃ W, W = wc := ⟨_, rfl⟩
                subst hW1
                go_upto_if 119 with (fail)
                go_cut [15] (fun m wc => ∃ r', m = .map r' ∧ Below w.heap.size w wc ∧ TabS w wc s0 p0 n0 s2 0 r ∧ TabI w wc s1 p1 n1 r' ∧ (r' = none ∨ r' ≠ r))
                case first =>
                  by_cases hz : n1 = 0
                  · subst hz
                    go_wp2
                    go_meet
                    case rel => exact ⟨none, rfl, hbel, HT, ⟨HasTab.nil _ _ _, fun _ h => by cases h⟩, .inl rfl⟩
                  · have hpos : 0 < n1 := by omega
                    go_wp2
                    go_loopw [16] (fun i wr => ∃ k : Nat, k ≤ n1 ∧ i = .int .i64 k ∧ Below w.heap.size w wr ∧ TabS w wr s0 p0 n0 s2 0 r ∧ HasTab litI wr (some W1.heap.size) k 2 (hI s1 k) (vI s1 p1 k) (dI s1 k)) (fun i _ => n1 - (intOf i).toNat)
                    case atStart => exact ⟨0, Nat.zero_le _, rfl, hbel.alloc hbel.size _, HT.kept (World.grownBy_alloc _ _ none) (by cases r <;> simp), HasTab.made _ _ _⟩
                    case round =>
                      obtain ⟨j, hj, rfl, hbelr, HTr, HI⟩ := hrel
                      by_cases hjlt : j < n1
                      · rcases h1.below hbelr with rfl | ⟨b, off, rfl, hc⟩
                        · omega
                        · obtain ⟨hc0, hc1⟩ := hc j hjlt
                          obtain ⟨w1, hrun, hg1, hbel1, HI1⟩ := fillI HI (by unfold maxLen; omega) (z1 j hjlt) hbelr hbel.size
                          have HT1 := HTr.kept hg1 HT.ne_new
                          clear hc
                          go_wp2
                          go_region
                          go_wp2
                          go_roundw
                          case rel => exact ⟨j + 1, by omega, by go_num, hbel1, HT1, HI1⟩
                          case measure => simp [intOf]; omega
                      · have : j = n1 := by omega
                        subst this
                        go_wp2
                        go_meet
                        case rel => exact ⟨some W1.heap.size, rfl, hbelr, HTr, ⟨HI, fun _ h => by cases h; exact hbel.size⟩, .inr (fun e => (HT.ne_new.elim (fun e' => by rw [e'] at e; cases e) (fun e' => e' e.symm)))⟩
                case rest =>
                  obtain ⟨r', rfl, hbel2, HT2, HI2, hne⟩ := hcut
                  clear HT hbel hmm
                  go_wp2
                  go_loopw [17] (fun i wr => ∃ k : Nat, k ≤ n2 ∧ i = .int .i64 k ∧ Below w.heap.size w wr ∧ TabS w wr s0 p0 n0 s2 k r ∧ TabI w wr s1 p1 n1 r') (fun i _ => n2 - (intOf i).toNat)
                  case atStart => exact ⟨0, Nat.zero_le _, rfl, hbel2, HT2, HI2⟩
                  case round =>
                    clear hbel2 HT2 HI2
                    obtain ⟨j, hj, rfl, hbel, HT, HI⟩ := hrel
                    by_cases hjlt : j < n2
                    · rcases h2.below hbel with rfl | ⟨b, off, rfl, hc⟩
                      · omega
                      have hcj := hc j hjlt
                      clear hc
                      obtain ⟨P, hp⟩ : ∃ P, vS s0 p0 n0 (s2 j).toList = P := ⟨_, rfl⟩
                      obtain ⟨O, ho⟩ : ∃ O, hS s2 j (s2 j).toList = O := ⟨_, rfl⟩
                      have hv : vQ s0 p0 n0 s2 j (s2 j).toList = (P && !O) := by rw [vQ, hp, ho]
                      have C5 := @pending_is w wr _ n0 c0 s0 p0 h0 hbel l0 (s2 j) P hp
                      have C6 := @occurs_is w wr _ n2 c2 s2 h2 hbel hn2 j hj (s2 j) O ho
                      have C7 := drop_is hbel HT HI hne (by unfold maxLen; omega) (z2 j hjlt) hv
                      clear hp ho hv
                      cases P <;> cases O
                      all_goals
                        have H5 : Hid (Calls Try.prog 5 _ _ _) := C5
                        have H6 : Hid (Calls Try.prog 6 _ _ _) := C6
                        have H7 : Hid (Calls Try.prog 7 _ _ _) := C7
                        clear C5 C6 C7
                        go_wp2_with fail
                        refine H5.out.mono ?_
                        rintro e w' ⟨rfl, hw⟩
                        subst hw
                      · go_wp2_with fail
                        refine H7.out.mono ?_
                        rintro e w1 ⟨rfl, hbel1, HT1, HI1⟩
                        go_wp2
                        go_roundw
                        case rel => exact ⟨j + 1, by omega, by go_num, hbel1, HT1, HI1⟩
                        case measure => simp [intOf]; omega
                      · go_wp2_with fail
                        refine H7.out.mono ?_
                        rintro e w1 ⟨rfl, hbel1, HT1, HI1⟩
                        go_wp2
                        go_roundw
                        case rel => exact ⟨j + 1, by omega, by go_num, hbel1, HT1, HI1⟩
                        case measure => simp [intOf]; omega
                      all_goals
                        go_wp2_with fail
                        refine H6.out.mono ?_
                        rintro e w1 ⟨rfl, hw⟩
                        subst hw
                        go_wp2_with fail
                        refine H7.out.mono ?_
                        rintro e w2 ⟨rfl, hbel1, HT1, HI1⟩
                        go_wp2
                        go_roundw
                        case rel => exact ⟨j + 1, by omega, by go_num, hbel1, HT1, HI1⟩
                        case measure => simp [intOf]; omega
                    · have : j = n2 := by omega
                      subst this
                      have hd0 := dS_le s0 n0
                      have C8 := @distS_is w wr _ n0 c0 s0 p0 h0 hbel l0
                      have H8 : Hid (Calls Try.prog 8 _ _ _) := C8
                      clear C8
                      go_wp2_with (at_len; refine wpList_len_tab _ rfl _ 28 rfl HT.1 Try.underlying28 rfl ?_)
                      refine H8.out.mono ?_
                      rintro e W2 ⟨rfl, hbel2, hg2⟩
                      have HT2 := HT.kept hg2 (by cases r <;> simp)
                      have HI2 := HI.kept hg2 (by cases r' <;> simp)
                      clear hg2 HT HI hbel H8
                      go_wp2
                      go_loop [20] (fun i => ∃ k : Nat, k ≤ n0 ∧ i = .int .i64 k) (fun i => n0 - (intOf i).toNat)
                      case atStart => exact ⟨0, Nat.zero_le _, rfl⟩
                      case round =>
                        obtain ⟨m, hm, rfl⟩ := hrel
                        by_cases hmlt : m < n0
                        · rcases h0.below hbel2 with rfl | ⟨b, off, rfl, hc⟩
                          · omega
                          obtain ⟨hcm, _⟩ := hc m hmlt
                          clear hc
                          obtain ⟨P, hp⟩ : ∃ P, vS s0 p0 n0 (s0 m).toList = P := ⟨_, rfl⟩
                          obtain ⟨O, ho⟩ : ∃ O, hS s2 j (s0 m).toList = O := ⟨_, rfl⟩
                          have hv : Hid (vQ s0 p0 n0 s2 j (s0 m).toList = (P && !O)) := by show vQ s0 p0 n0 s2 j (s0 m).toList = (P && !O); rw [vQ, hp, ho]
                          have hh : Hid (hS s0 n0 (s0 m).toList = true) := hS_self s0 n0 m hmlt
                          have C5 := @pending_is w W2 _ n0 c0 s0 p0 h0 hbel2 l0 (s0 m) P hp
                          have C6 := @occurs_is w W2 _ j c2 s2 h2 hbel2 hn2 j (Nat.le_refl _) (s0 m) O ho
                          clear hp ho
                          cases P <;> cases O
                          all_goals
                            have H5 : Hid (Calls Try.prog 5 _ _ _) := C5
                            have H6 : Hid (Calls Try.prog 6 _ _ _) := C6
                            clear C5 C6
                            go_wp2_with (at_lookup; refine wpList_look_tab _ rfl _ _ 28 rfl HT2.1 law9 Try.underlying28 rfl _ (s0 m).toList rfl (keyS (z0 m hmlt)) hv.out hh.out ?_)
                            refine H5.out.mono ?_
                            rintro e w' ⟨rfl, hw⟩
                            subst hw
                          · go_wp2
                            go_round
                            case rel => exact ⟨m + 1, by omega, by go_num⟩
                            case measure => simp [intOf]; omega
                          · go_wp2
                            go_round
                            case rel => exact ⟨m + 1, by omega, by go_num⟩
                            case measure => simp [intOf]; omega
                          all_goals
                            go_wp2_with fail
                            refine H6.out.mono ?_
                            rintro e w1 ⟨rfl, hw⟩
                            subst hw
                            go_wp2
                            go_round
                            case rel => exact ⟨m + 1, by omega, by go_num⟩
                            case measure => simp [intOf]; omega
                        · clear HT2
                          have hd1 := dI_le s1 n1
                          have C9 := @distI_is w W2 _ n1 c1 s1 p1 h1 hbel2 l1
                          have H9 : Hid (Calls Try.prog 9 _ _ _) := C9
                          clear C9
                          go_wp2_with (at_len; refine wpList_len_tab _ rfl _ 29 rfl HI2.1 Try.underlying29 rfl ?_)
                          refine H9.out.mono ?_
                          rintro e W3 ⟨rfl, hbel3, hg3⟩
                          have HI3 := HI2.kept hg3 (by cases r' <;> simp)
                          clear hg3 HI2 hbel2 H9
                          go_wp2
                          go_loop [25] (fun i => ∃ k : Nat, k ≤ n1 ∧ i = .int .i64 k) (fun i => n1 - (intOf i).toNat)
                          case atStart => exact ⟨0, Nat.zero_le _, rfl⟩
                          case round =>
                            obtain ⟨y, hy, rfl⟩ := hrel
                            by_cases hylt : y < n1
                            · rcases h1.below hbel3 with rfl | ⟨b, off, rfl, hc⟩
                              · omega
                              obtain ⟨hcy, _⟩ := hc y hylt
                              clear hc
                              obtain ⟨P, hp⟩ : ∃ P, vI s1 p1 n1 (s1 y) = P := ⟨_, rfl⟩
                              have hv : Hid (vI s1 p1 n1 (s1 y) = P) := hp
                              have hh : Hid (hI s1 n1 (s1 y) = true) := hI_self s1 n1 y hylt
                              have C10 := @fires_is w W3 _ n1 c1 s1 p1 h1 hbel3 l1 (s1 y) P hp
                              clear hp
                              have H10 : Hid (Calls Try.prog 10 _ _ _) := C10
                              clear C10
                              go_wp2_with (at_lookup; refine wpList_look_tab _ rfl _ _ 29 rfl HI3.1 law2 Try.underlying29 rfl _ (s1 y) rfl (keyI (z1 y hylt)) hv.out hh.out ?_)
                              refine H10.out.mono ?_
                              rintro e w1 ⟨rfl, hw⟩
                              subst hw
                              go_wp2
                              go_round
                              case rel => exact ⟨y + 1, by omega, by go_num⟩
                              case measure => simp [intOf]; omega
                            · go_wp2
                              go_ret
                              exact ⟨rfl, hbel3⟩
end Go.Proofs.Qxb6623414a
