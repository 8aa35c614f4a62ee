import Derived.Test.Qxb6623498aLaw
import Derived.Deep.RegionWith
namespace Go.Proofs.Qxb6623498a
open Go.RowKit
set_option linter.unusedVariables false

set_option maxRecDepth 100000 in
set_option maxHeartbeats 10000000 in
theorem main_any (a : Option Addr) (n c : Nat) (N : Nat → Node) (P : Int) (x : Node) (w : World) (h : IsNodes w a n N) (hn : n ≤ maxLen)
    (zN : ∀ i, i < n → (N i).name.size ≤ maxLen ∧ (N i).addr.size ≤ maxLen ∧ (N i).client.size ≤ maxLen) (zx : x.name.size ≤ maxLen ∧ x.addr.size ≤ maxLen ∧ x.client.size ≤ maxLen) :
    Calls Try.prog 3 #[.slice a n c, .int .i64 P, .agg #[.string x.name, .string x.addr, .int .i64 x.since, .string x.client, .bool x.joined, .int .i64 x.clen]] w fun e w' => e = .returned (.bool true) ∧ Below w.heap.size w w' := by
  have hBx : Base w (w.alloc (.cells #[.string x.name, .string x.addr, .int .i64 x.since, .string x.client, .bool x.joined, .int .i64 x.clen] 24)) x :=
    ⟨(Below.refl _ _).alloc (Nat.le_refl _) _, fun j v hv => by
      rw [Nat.zero_add, World.cell?_alloc_mark]
      simpa [nc] using hv⟩
  have hsz : (w.alloc (.cells #[.string x.name, .string x.addr, .int .i64 x.since, .string x.client, .bool x.joined, .int .i64 x.clen] 24)).heap.size = w.heap.size + 1 := by simp
  have HSZ : Hid _ := hsz
  have CB := bytes_any a n c N P x (w.alloc (.cells #[.string x.name, .string x.addr, .int .i64 x.since, .string x.client, .bool x.joined, .int .i64 x.clen] 24)) (h.below hBx.1) hn zN zx
  have HCB : Hid (Calls Try.prog 4 _ _ _) := CB
  clear CB hsz
  go_enter Try.func3, Try.ntmps3
  go_wp2_with fail
  refine HCB.out.mono ?_
  rintro e w1 ⟨⟨b, rfl⟩, hb1⟩
  have hB := hBx.below hb1
  clear hBx hb1 HCB HSZ
  obtain ⟨x0, x1, x2, x3, x4, x5⟩ := hB.cells
  obtain ⟨zx0, zx1, zx2⟩ := zx
  have hmx : maxLen = 9223372036854775807 := rfl
  rw [hmx] at zx0 zx1 zx2
  clear hmx
  cases b
  · go_wp2
    go_ret
    exact ⟨rfl, hB.1⟩
  by_cases l0 : n ≤ 65536
  rotate_left
  · go_wp2
    go_ret
    exact ⟨rfl, hB.1⟩
  go_wp2
  · go_ret
    exact ⟨rfl, hB.1⟩
  clear x0 x1 x2 x3 x4 x5
  go_loopw [7, 8] (fun t i wr => ∃ (z : Int) (k : Nat), k ≤ n ∧ t = .int .i64 z ∧ i = .int .i64 k ∧ Base w wr x) (fun _ i _ => n - (intOf i).toNat)
  case atStart => exact ⟨_, 0, Nat.zero_le _, rfl, rfl, hB⟩
  case round =>
    clear hB
    obtain ⟨z, k, hk, rfl, rfl, hB⟩ := hrel
    by_cases hlt : k < n
    · rcases h.below hB.1 with rfl | ⟨b, off, rfl, hc⟩
      · omega
      · obtain ⟨k0, k1, k2, k3, k4, k5⟩ := node_cells (hc k hlt)
        obtain ⟨z0, z1, z2⟩ := zN k hlt
        unfold maxLen at z0 z1 z2
        clear hc
        go_wp2
        go_quiet (fail)
        go_wp2
        all_goals first | (go_ret; exact ⟨rfl, below_drewN hB.1 _⟩) | skip
        go_roundw
        case rel => exact ⟨_, k + 1, by omega, rfl, by go_num, ⟨below_drewN hB.1 _, hB.2⟩⟩
        case measure => simp [intOf]; omega
    · by_cases hP0 : P < 0
      · go_wp2
        go_ret
        exact ⟨rfl, hB.1⟩
      by_cases hPn : (n : Int) < P
      · go_wp2
        go_ret
        exact ⟨rfl, hB.1⟩
      obtain ⟨p, rfl⟩ := Int.eq_ofNat_of_zero_le (show 0 ≤ P by omega)
      have hp : p ≤ n := by omega
      clear hP0 hPn
      obtain ⟨i0, hi, hz0, hz1, hz2⟩ := info_parts info31
      obtain ⟨W0, hW0⟩ : ∃ W, W = wr := ⟨_, rfl⟩
      subst hW0
      go_wp2_with (at_make; refine wpList_make_full _ rfl _ _ 27 rfl 0 31 i0 _ 6 Try.underlying27 hi hz0 hz1 .i64 .i64 _ _ n rfl rfl rfl rfl (by rw [hz2]; omega) (by unfold maxLen; omega) (Nat.zero_le _) ?_)
      intro w2 hown2 hg2
      have hR2 : Row w2 W0.heap.size 0 n N := row_made hown2
      have hB2 : Base w w2 x := hB.below (grown_below hg2)
      have hl0 : w.heap.size < W0.heap.size := hB.lt
      clear hown2 hg2 hB
      go_wp2
      go_loopw [10] (fun i wr => ∃ k : Nat, k ≤ n ∧ i = .int .i64 k ∧ Base w wr x ∧ Row wr W0.heap.size k n N) (fun i _ => n - (intOf i).toNat)
      case atStart => exact ⟨0, Nat.zero_le _, rfl, hB2, hR2⟩
      case round =>
        clear hB2 hR2
        obtain ⟨j, hj, rfl, hB, hR⟩ := hrel
        by_cases hlt : j < n
        · rcases h.below hB.1 with rfl | ⟨b, off, rfl, hc⟩
          · omega
          · obtain ⟨k0, k1, k2, k3, k4, k5⟩ := node_cells (hc j hlt)
            clear hc
            go_wp2_with fail
            refine (reg_any (N j) _).mono ?_
            rintro e w3 ⟨rfl, hb3⟩
            have hB3 := hB.below hb3
            have hR3 := hR.below hb3
            clear hB hR hb3 k0 k1 k2 k3 k4 k5
            go_wp2_with ((with_reducible apply wpList_lay (nd := N j) hR3 hlt); (case ho => rfl); (case hgd => rfl); (case hx => rfl); (case hy => rfl); intro w4 hw4)
            have hB4 : Base w w4 x := by rw [hw4.out]; exact hB3.set hl0 _ _
            have hR4 : Row w4 W0.heap.size (j + 1) n N := by rw [hw4.out]; exact hR3.lay hlt
            clear hw4 hB3 hR3
            go_roundw
            case rel => exact ⟨j + 1, by omega, by go_num, hB4, hR4⟩
            case measure => simp [intOf]; omega
        · obtain rfl : j = n := by omega
          obtain ⟨W1, hW1⟩ : ∃ W, W = wr := ⟨_, rfl⟩
          subst hW1
          go_wp2_with (at_make; refine wpList_make_full _ rfl _ _ 27 rfl 0 31 i0 _ 6 Try.underlying27 hi hz0 hz1 .i64 .i64 _ _ (j + 1) rfl rfl (by omega) (by omega) (by rw [hz2]; omega) (by unfold maxLen; omega) (Nat.zero_le _) ?_)
          intro w5 hown5 hg5
          have hbb := grown_below hg5
          have hV5 := hR.below hbb
          have hB5 := hB.below hbb
          have hR5 : Row w5 W1.heap.size 0 (j + 1) (ins N p x) := row_made hown5
          have hl1 : W0.heap.size < W1.heap.size := hR.1
          clear hown5 hg5 hbb hB hR
          go_wp2
          go_loopw [12] (fun i wr => ∃ k : Nat, k ≤ p ∧ i = .int .i64 k ∧ Base w wr x ∧ Row wr W0.heap.size j j N ∧ Row wr W1.heap.size k (j + 1) (ins N p x)) (fun i _ => p - (intOf i).toNat)
          case atStart => exact ⟨0, Nat.zero_le _, rfl, hB5, hV5, hR5⟩
          case round =>
            clear hB5 hV5 hR5
            obtain ⟨q, hq, rfl, hB, hV, hR⟩ := hrel
            by_cases hqp : q < p
            · rcases h.below hB.1 with rfl | ⟨b, off, rfl, hc⟩
              · omega
              · obtain ⟨k0, k1, k2, k3, k4, k5⟩ := node_cells (hc q (by omega))
                clear hc
                go_wp2_with fail
                refine (reg_any (N q) _).mono ?_
                rintro e w3 ⟨rfl, hb3⟩
                have hB3 := hB.below hb3
                have hV3 := hV.below hb3
                have hR3 := hR.below hb3
                have hq1 : q < j + 1 := by omega
                clear hB hV hR hb3 k0 k1 k2 k3 k4 k5
                go_wp2_with ((with_reducible apply wpList_lay (nd := N q) hR3 hq1); (case ho => rfl); (case hgd => rfl); (case hx => rfl); (case hy => rfl); intro w4 hw4)
                have hB4 : Base w w4 x := by rw [hw4.out]; exact hB3.set (by omega) _ _
                have hV4 : Row w4 W0.heap.size j j N := by rw [hw4.out]; exact hV3.other (by omega) _ _
                have hR4 : Row w4 W1.heap.size (q + 1) (j + 1) (ins N p x) := by rw [hw4.out, ← ins_lt N p x q hqp]; exact hR3.lay hq1
                clear hw4 hB3 hV3 hR3
                go_roundw
                case rel => exact ⟨q + 1, by omega, by go_num, hB4, hV4, hR4⟩
                case measure => simp [intOf]; omega
            · obtain rfl : q = p := by omega
              obtain ⟨x0, x1, x2, x3, x4, x5⟩ := hB.cells
              go_wp2_with fail
              refine (reg_any x _).mono ?_
              rintro e w3 ⟨rfl, hb3⟩
              have hB3 := hB.below hb3
              have hV3 := hV.below hb3
              have hR3 := hR.below hb3
              have hq1 : q < j + 1 := by omega
              clear hB hV hR hb3 x0 x1 x2 x3 x4 x5
              go_wp2_with ((with_reducible apply wpList_lay (nd := x) hR3 hq1); (case ho => rfl); (case hgd => rfl); (case hx => rfl); (case hy => rfl); intro w4 hw4)
              have hB4 : Base w w4 x := by rw [hw4.out]; exact hB3.set (by omega) _ _
              have hV4 : Row w4 W0.heap.size j j N := by rw [hw4.out]; exact hV3.other (by omega) _ _
              have hR4 : Row w4 W1.heap.size (q + 1) (j + 1) (ins N q x) := by
                rw [hw4.out]
                have := hR3.lay hq1
                rwa [ins_at] at this
              clear hw4 hB3 hV3 hR3
              go_loopw [13] (fun i wr => ∃ k : Nat, q ≤ k ∧ k ≤ j ∧ i = .int .i64 k ∧ Base w wr x ∧ Row wr W0.heap.size j j N ∧ Row wr W1.heap.size (k + 1) (j + 1) (ins N q x)) (fun i _ => j - (intOf i).toNat)
              case atStart => exact ⟨q, Nat.le_refl _, hp, rfl, hB4, hV4, hR4⟩
              case round =>
                clear hB4 hV4 hR4
                obtain ⟨m, hqm, hmj, rfl, hB, hV, hR⟩ := hrel
                by_cases hmlt : m < j
                · rcases h.below hB.1 with rfl | ⟨b, off, rfl, hc⟩
                  · omega
                  · obtain ⟨k0, k1, k2, k3, k4, k5⟩ := node_cells (hc m hmlt)
                    clear hc
                    go_wp2_with fail
                    refine (reg_any (N m) _).mono ?_
                    rintro e w5 ⟨rfl, hb5⟩
                    have hB5 := hB.below hb5
                    have hV5 := hV.below hb5
                    have hR5 := hR.below hb5
                    have hm1 : m + 1 < j + 1 := by omega
                    clear hB hV hR hb5 k0 k1 k2 k3 k4 k5
                    go_wp2_with ((with_reducible apply wpList_lay (nd := N m) hR5 hm1); (case ho => rfl); (case hgd => rfl); (case hx => rfl); (case hy => rfl); intro w6 hw6)
                    have hB6 : Base w w6 x := by rw [hw6.out]; exact hB5.set (by omega) _ _
                    have hV6 : Row w6 W0.heap.size j j N := by rw [hw6.out]; exact hV5.other (by omega) _ _
                    have hR6 : Row w6 W1.heap.size (m + 1 + 1) (j + 1) (ins N q x) := by
                      rw [hw6.out]
                      have := hR5.lay hm1
                      rwa [ins_gt N q x m hqm] at this
                    clear hw6 hB5 hV5 hR5
                    go_roundw
                    case rel => exact ⟨m + 1, by omega, by omega, by go_num, hB6, hV6, hR6⟩
                    case measure => simp [intOf]; omega
                · obtain rfl : m = j := by omega
                  go_wp2
                  go_loop [14, 15] (fun t i => ∃ d : Nat, q + d ≤ m ∧ i = .int .i64 ((q + d : Nat) : Int) ∧ t = .bool (jb N q d)) (fun _ i => m - (intOf i).toNat)
                  case atStart => exact ⟨0, by omega, rfl, rfl⟩
                  case round =>
                    obtain ⟨d, hd, rfl, rfl⟩ := hrel
                    by_cases hdlt : q + d < m
                    · rcases h.below hB.1 with rfl | ⟨b, off, rfl, hc⟩
                      · omega
                      · obtain ⟨k0, k1, k2, k3, k4, k5⟩ := node_cells (hc (q + d) hdlt)
                        clear hc k0 k1 k2 k3 k5
                        cases hjn : (N (q + d)).joined
                        · have HJ : Hid (jb N q (d + 1) = jb N q d) := by show jb N q (d + 1) = jb N q d; rw [jb, hjn, Bool.or_false]
                          go_wp2
                          go_round
                          case rel => exact ⟨d + 1, by omega, by go_num, by rw [HJ.out]⟩
                          case measure => simp [intOf]; omega
                        · have HJ : Hid (jb N q (d + 1) = true) := by show jb N q (d + 1) = true; rw [jb, hjn, Bool.or_true]
                          go_wp2
                          go_round
                          case rel => exact ⟨d + 1, by omega, by go_num, by rw [HJ.out]⟩
                          case measure => simp [intOf]; omega
                    · have hdm : d = m - q := by omega
                      have HD : Hid (d = m - q) := hdm
                      clear hdm
                      obtain ⟨⟨s1, s2, i3⟩, hT⟩ : ∃ t, tl N m = t := ⟨_, rfl⟩
                      have HT : Hid (tl N m = (s1, s2, i3)) := hT
                      clear hT
                      have C1 := tail_is hV (by omega) HT.out
                      have H1 : Hid (Calls Try.prog 6 _ _ _) := C1
                      clear C1
                      have L1 : Hid (x.joined = true → jb N q d = false → tl (ins N q x) (m + 1) = (x.name, x.addr, x.since)) := fun h1 h2 => law_own N m q x hp h1 (HD.out ▸ h2)
                      have L2 : Hid (x.joined = false ∨ jb N q d = true → tl (ins N q x) (m + 1) = (s1, s2, i3)) := fun h' => (law_old N m q x hp (HD.out ▸ h')).trans HT.out
                      obtain ⟨J, hJ⟩ : ∃ J, jb N q d = J := ⟨_, rfl⟩
                      rw [hJ] at L1 L2 ⊢
                      clear hJ
                      go_wp2_with fail
                      refine H1.out.mono ?_
                      rintro e w7 ⟨rfl, hb7⟩
                      have hB7 := hB.below hb7
                      have hR7 := hR.below hb7
                      clear hB hR hV hb7 H1
                      have hba := (Below.refl w7.heap.size w7).alloc (Nat.le_refl _) (.cells #[.string s1, .string s2, .int .i64 i3] 29)
                      have hB8 := hB7.below hba
                      have hR8 := hR7.below hba
                      clear hba hR7 hB7
                      obtain ⟨⟨t1, t2, t3⟩, hT2⟩ : ∃ t, tl (ins N q x) (m + 1) = t := ⟨_, rfl⟩
                      have C2 := tail_is hR8 (by omega) hT2
                      have H2 : Hid (Calls Try.prog 6 _ _ _) := C2
                      clear C2
                      rw [hT2] at L1 L2
                      clear hT2
                      go_wp2_with fail
                      refine H2.out.mono ?_
                      rintro e w8 ⟨rfl, hb8⟩
                      have hB9 := hB8.below hb8
                      have hlt8 := hB9.lt
                      have hs8 : w7.heap.size < w8.heap.size := by have := hb8.size; simp at this; omega
                      have y0 : w8.cell? ⟨w7.heap.size, 0, none⟩ = some (.string s1) := by rw [hb8.cell (p := ⟨w7.heap.size, 0, none⟩) (by simp)]; simp
                      have y1 : w8.cell? ⟨w7.heap.size, 1, none⟩ = some (.string s2) := by rw [hb8.cell (p := ⟨w7.heap.size, 1, none⟩) (by simp)]; simp
                      have y2 : w8.cell? ⟨w7.heap.size, 2, none⟩ = some (.int .i64 i3) := by rw [hb8.cell (p := ⟨w7.heap.size, 2, none⟩) (by simp)]; simp
                      obtain ⟨x0, x1, x2, x3, x4, x5⟩ := hB9.cells
                      have hbel := hB9.1
                      clear hb8 hB8 hR8 H2 hB9
                      by_cases hown : x.joined = true ∧ J = false
                      · obtain ⟨hx, rfl⟩ := hown
                        have e := L1.out hx rfl
                        simp only [Prod.mk.injEq] at e
                        obtain ⟨rfl, rfl, rfl⟩ := e
                        clear L1 L2
                        go_wp2
                        go_region_with (go_at_call 7; refine (member_raw x.name x.addr x.since x.client true x.clen _).mono ?_; rintro e w9 ⟨rfl, hb9⟩; have g0 : w9.cell? ⟨w8.heap.size, 0, none⟩ = some (.string x.name) := (hb9.cell (p := ⟨w8.heap.size, 0, none⟩) (by simp)).trans (by simp); have g1 : w9.cell? ⟨w8.heap.size, 1, none⟩ = some (.string x.addr) := (hb9.cell (p := ⟨w8.heap.size, 1, none⟩) (by simp)).trans (by simp); have g2 : w9.cell? ⟨w8.heap.size, 2, none⟩ = some (.int .i64 x.since) := (hb9.cell (p := ⟨w8.heap.size, 2, none⟩) (by simp)).trans (by simp))
                        all_goals
                          have hfin : Below w.heap.size w w9 := ((hbel.alloc hbel.size _).drew).trans (hb9.mono (by simp; omega))
                          clear hb9
                          go_wp2
                          go_ret
                          exact ⟨rfl, hfin⟩
                      · have e := L2.out (by cases hx : x.joined <;> cases J <;> simp_all)
                        simp only [Prod.mk.injEq] at e
                        obtain ⟨rfl, rfl, rfl⟩ := e
                        clear L1 L2
                        cases hx : x.joined
                        · go_wp2
                          go_ret
                          exact ⟨rfl, hbel.alloc hbel.size _⟩
                        · have hJ : J = true := by cases J <;> simp_all
                          subst hJ
                          go_wp2
                          go_ret
                          exact ⟨rfl, hbel.alloc hbel.size _⟩
end Go.Proofs.Qxb6623498a
