import Derived.Test.Qxb6623414aScan
namespace Go.Proofs.Qxb6623414a
open Go.RowKit

def SomeBool (e : Ending) : Prop := ∃ b, e = .returned (.bool b)
theorem SomeBool.mk (b : Bool) : SomeBool (.returned (.bool b)) := ⟨b, rfl⟩

set_option maxHeartbeats 1000000 in
theorem bytes_any (a0 a1 a2 : Option Addr) (n0 n1 n2 c0 c1 c2 : Nat) (s0 s2 : Nat → ByteArray) (p0 : Nat → Bool) (w : World) (h0 : IsTimers w a0 n0 s0 p0) (h2 : IsStrs w a2 n2 s2)
    (hn0 : n0 ≤ maxLen) (_hn1 : n1 ≤ maxLen) (hn2 : n2 ≤ maxLen) (z0 : ∀ i, i < n0 → (s0 i).size ≤ maxLen) (z2 : ∀ i, i < n2 → (s2 i).size ≤ maxLen) :
    Calls Try.prog 4 #[.slice a0 n0 c0, .slice a1 n1 c1, .slice a2 n2 c2] w fun e w' => SomeBool e ∧ w' = w := by
  unfold maxLen at *
  go_enter Try.func4, Try.ntmps4
  go_wp2
  all_goals first | (go_ret; exact ⟨SomeBool.mk _, rfl⟩) | skip
  all_goals
    go_loop [7, 8] (fun t i => ∃ (z : Int) (k : Nat), k ≤ n0 ∧ t = .int .i64 z ∧ i = .int .i64 k) (fun _ i => n0 - (intOf i).toNat)
    case atStart => exact ⟨_, 0, Nat.zero_le _, rfl, rfl⟩
    case round =>
      obtain ⟨z, k, hk, rfl, rfl⟩ := hrel
      by_cases hlt : k < n0
      · rcases h0 with rfl | ⟨b, off, rfl, hc⟩
        · omega
        · obtain ⟨hc0, hc1⟩ := hc k (by omega)
          have hz := z0 k hlt
          clear hc
          go_wp2
          all_goals first | (go_ret; exact ⟨SomeBool.mk _, rfl⟩) | skip
          go_round
          case rel => exact ⟨_, k + 1, by omega, rfl, by go_num⟩
          case measure => simp [intOf]; omega
      · go_wp2
        all_goals first | (go_ret; exact ⟨SomeBool.mk _, rfl⟩) | skip
        go_loop [7, 9] (fun t i => ∃ (z : Int) (k : Nat), k ≤ n2 ∧ t = .int .i64 z ∧ i = .int .i64 k) (fun _ i => n2 - (intOf i).toNat)
        case atStart => exact ⟨_, 0, Nat.zero_le _, rfl, rfl⟩
        case round =>
          obtain ⟨y, m, hm, rfl, rfl⟩ := hrel
          by_cases hltm : m < n2
          · rcases h2 with rfl | ⟨b, off, rfl, hc⟩
            · omega
            · have hc0 := hc m (by omega)
              have hz := z2 m hltm
              clear hc
              go_wp2
              all_goals first | (go_ret; exact ⟨SomeBool.mk _, rfl⟩) | skip
              go_round
              case rel => exact ⟨_, m + 1, by omega, rfl, by go_num⟩
              case measure => simp [intOf]; omega
          · go_wp2
            go_ret
            exact ⟨SomeBool.mk _, rfl⟩
end Go.Proofs.Qxb6623414a
