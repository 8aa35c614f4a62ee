import Derived.Test.Qxb6623414aRows
import Derived.WalkKit
import Derived.WalkSpells
import Derived.WalkLawsBesides
import Derived.Deep.QuietTactic
import Derived.BigQuiet
namespace Go.Proofs.Qxb6623414a
open Go.RowKit

/-- The value at the last of the first n places where p holds; false where there is none. -/
def lastB (p v : Nat → Bool) : Nat → Bool
  | 0 => false
  | n + 1 => if p n then v n else lastB p v n
/-- Does p hold at one of the first n places? -/
def anyB (p : Nat → Bool) : Nat → Bool
  | 0 => false
  | n + 1 => anyB p n || p n

theorem anyB_false {p : Nat → Bool} {k : Nat} (h : anyB p k = false) (hp : p k = false) : anyB p (k + 1) = false := by simp [anyB, h, hp]
theorem anyB_true {p : Nat → Bool} {k : Nat} (hp : p k = true) : ∀ m, k < m → anyB p m = true
  | 0, h => absurd h (Nat.not_lt_zero _)
  | m + 1, h => by
    rcases Nat.lt_succ_iff_lt_or_eq.1 h with h' | rfl
    · simp [anyB, anyB_true hp m h']
    · simp [anyB, hp]
theorem lastB_hit {p v : Nat → Bool} {k n : Nat} (h : lastB p v n = lastB p v (k + 1)) (hp : p k = true) : lastB p v n = v k := by rw [h]; simp [lastB, hp]
theorem lastB_miss {p v : Nat → Bool} {k n : Nat} (h : lastB p v n = lastB p v (k + 1)) (hp : p k = false) : lastB p v n = lastB p v k := by rw [h]; simp [lastB, hp]

/-- A slice of strings that came in. -/
def IsStrs (w : World) (a : Option Addr) (n : Nat) (s : Nat → ByteArray) : Prop :=
  n = 0 ∨ ∃ b off, a = some ⟨b, off, none⟩ ∧ ∀ i, i < n → w.cell? ⟨b, off + i, none⟩ = some (.string (s i))
/-- A slice of timers that came in: its ids, its marks. -/
def IsTimers (w : World) (a : Option Addr) (n : Nat) (s : Nat → ByteArray) (p : Nat → Bool) : Prop :=
  n = 0 ∨ ∃ b off, a = some ⟨b, off, none⟩ ∧ ∀ i, i < n → w.cell? ⟨b, off + i * 2, none⟩ = some (.string (s i)) ∧ w.cell? ⟨b, off + i * 2 + 1, none⟩ = some (.bool (p i))
/-- A slice of starts that came in: its events, its marks. -/
def IsStarts (w : World) (a : Option Addr) (n : Nat) (s : Nat → Int) (p : Nat → Bool) : Prop :=
  n = 0 ∨ ∃ b off, a = some ⟨b, off, none⟩ ∧ ∀ i, i < n → w.cell? ⟨b, off + i * 2, none⟩ = some (.int .i64 (s i)) ∧ w.cell? ⟨b, off + i * 2 + 1, none⟩ = some (.bool (p i))

theorem ret_bool {a b : Bool} (h : a = b) : Ending.returned (.bool a) = .returned (.bool b) := by rw [h]

set_option maxHeartbeats 400000 in
theorem occurs_any (a : Option Addr) (n c : Nat) (s : Nat → ByteArray) (w : World) (h : IsStrs w a n s) (m : Nat) (hm : m ≤ n) (hn : n ≤ maxLen) (q : ByteArray) :
    Calls Try.prog 6 #[.slice a n c, .int .i64 m, .string q] w fun e w' => e = .returned (.bool (anyB (fun j => (s j).toList == q.toList) m)) ∧ w' = w := by
  unfold maxLen at hn
  go_enter Try.func6, Try.ntmps6
  go_wp2
  go_loop [7] (fun i => ∃ k : Nat, k ≤ m ∧ i = .int .i64 k ∧ anyB (fun j => (s j).toList == q.toList) k = false) (fun i => m - (intOf i).toNat)
  case atStart => exact ⟨0, Nat.zero_le _, rfl, rfl⟩
  case round =>
    obtain ⟨k, hk, rfl, hf⟩ := hrel
    have HF : Hid (anyB (fun j => (s j).toList == q.toList) k = false) := hf
    clear hf
    by_cases hlt : k < m
    · rcases h with rfl | ⟨b, off, rfl, hc⟩
      · omega
      · have hck := hc k (by omega)
        clear hc
        go_wp2
        · go_ret
          exact ⟨ret_bool (anyB_true (p := fun j => (s j).toList == q.toList) ‹_› m hlt).symm, rfl⟩
        · go_round
          case rel => exact ⟨k + 1, by omega, by go_num, anyB_false HF.out ‹_›⟩
          case measure => simp [intOf]; omega
    · go_wp2
      go_ret
      have : k = m := by omega
      subst this
      exact ⟨ret_bool HF.out.symm, rfl⟩

set_option maxHeartbeats 400000 in
theorem pending_any (a : Option Addr) (n c : Nat) (s : Nat → ByteArray) (p : Nat → Bool) (w : World) (h : IsTimers w a n s p) (hn : n ≤ 4096) (q : ByteArray) :
    Calls Try.prog 5 #[.slice a n c, .string q] w fun e w' => e = .returned (.bool (lastB (fun j => (s j).toList == q.toList) p n)) ∧ w' = w := by
  go_enter Try.func5, Try.ntmps5
  go_wp2
  go_loop [5] (fun i => ∃ k : Nat, k ≤ n ∧ i = .int .i64 ((k : Int) - 1) ∧ lastB (fun j => (s j).toList == q.toList) p n = lastB (fun j => (s j).toList == q.toList) p k) (fun i => (intOf i + 1).toNat)
  case atStart => exact ⟨n, Nat.le_refl _, rfl, rfl⟩
  case round =>
    obtain ⟨k, hk, rfl, hf⟩ := hrel
    cases k with
    | zero =>
      have HF : Hid (lastB (fun j => (s j).toList == q.toList) p n = lastB (fun j => (s j).toList == q.toList) p 0) := hf
      clear hf
      go_wp2
      go_ret
      exact ⟨ret_bool (by rw [HF.out]; rfl), rfl⟩
    | succ k =>
      have HF : Hid (lastB (fun j => (s j).toList == q.toList) p n = lastB (fun j => (s j).toList == q.toList) p (k + 1)) := hf
      clear hf
      rw [show (((k + 1 : Nat) : Int) - 1) = (k : Int) by omega]
      rcases h with rfl | ⟨b, off, rfl, hc⟩
      · omega
      · obtain ⟨hc0, hc1⟩ := hc k (by omega)
        clear hc
        go_wp2
        · go_ret
          exact ⟨ret_bool (lastB_hit HF.out ‹_›).symm, rfl⟩
        · go_round
          case rel => exact ⟨k, by omega, rfl, lastB_miss HF.out ‹_›⟩
          case measure => simp [intOf]

set_option maxHeartbeats 400000 in
theorem lastFires_any (a : Option Addr) (n c : Nat) (s : Nat → Int) (p : Nat → Bool) (w : World) (h : IsStarts w a n s p) (hn : n ≤ 4096) (q : Int) :
    Calls Try.prog 10 #[.slice a n c, .int .i64 q] w fun e w' => e = .returned (.bool (lastB (fun j => s j == q) p n)) ∧ w' = w := by
  go_enter Try.func10, Try.ntmps10
  go_wp2
  go_loop [5] (fun i => ∃ k : Nat, k ≤ n ∧ i = .int .i64 ((k : Int) - 1) ∧ lastB (fun j => s j == q) p n = lastB (fun j => s j == q) p k) (fun i => (intOf i + 1).toNat)
  case atStart => exact ⟨n, Nat.le_refl _, rfl, rfl⟩
  case round =>
    obtain ⟨k, hk, rfl, hf⟩ := hrel
    cases k with
    | zero =>
      have HF : Hid (lastB (fun j => s j == q) p n = lastB (fun j => s j == q) p 0) := hf
      clear hf
      go_wp2
      go_ret
      exact ⟨ret_bool (by rw [HF.out]; rfl), rfl⟩
    | succ k =>
      have HF : Hid (lastB (fun j => s j == q) p n = lastB (fun j => s j == q) p (k + 1)) := hf
      clear hf
      rw [show (((k + 1 : Nat) : Int) - 1) = (k : Int) by omega]
      rcases h with rfl | ⟨b, off, rfl, hc⟩
      · omega
      · obtain ⟨hc0, hc1⟩ := hc k (by omega)
        clear hc
        go_wp2
        · go_ret
          exact ⟨ret_bool (lastB_hit HF.out ‹_›).symm, rfl⟩
        · go_round
          case rel => exact ⟨k, by omega, rfl, lastB_miss HF.out ‹_›⟩
          case measure => simp [intOf]

/-- How many different ones are among the first n: counted where each comes first. -/
def distB (same : Nat → Nat → Bool) : Nat → Nat
  | 0 => 0
  | n + 1 => distB same n + if anyB (fun j => same j n) n then 0 else 1
theorem distB_le (same : Nat → Nat → Bool) : ∀ n, distB same n ≤ n
  | 0 => Nat.le_refl _
  | n + 1 => by have := distB_le same n; unfold distB; split <;> omega
theorem distB_seen {same : Nat → Nat → Bool} {m k : Nat} (h : same m k = true) (hlt : m < k) : distB same (k + 1) = distB same k := by
  rw [distB, anyB_true (p := fun j => same j k) h k hlt]; rfl
theorem distB_new {same : Nat → Nat → Bool} {k : Nat} (h : anyB (fun j => same j k) k = false) : distB same (k + 1) = distB same k + 1 := by
  rw [distB, h]; rfl
theorem ret_int {k : IntKind} {a b : Int} (h : a = b) : Ending.returned (.int k a) = .returned (.int k b) := by rw [h]

set_option maxHeartbeats 800000 in
theorem distinctIDs_any (a : Option Addr) (n c : Nat) (s : Nat → ByteArray) (p : Nat → Bool) (w : World) (h : IsTimers w a n s p) (hn : n ≤ 4096) :
    Calls Try.prog 8 #[.slice a n c] w fun e w' => e = .returned (.int .i64 (distB (fun j i => (s j).toList == (s i).toList) n)) ∧ ∃ d, w' = w.drewN d := by
  go_enter Try.func8, Try.ntmps8
  go_wp2
  go_loopw [3, 4] (fun t i wr => ∃ k d : Nat, k ≤ n ∧ i = .int .i64 k ∧ t = .int .i64 (distB (fun j i => (s j).toList == (s i).toList) k) ∧ wr = w.drewN d) (fun _ i _ => n - (intOf i).toNat)
  case atStart => exact ⟨0, 0, Nat.zero_le _, rfl, rfl, rfl⟩
  case round =>
    obtain ⟨k, d, hk, rfl, rfl, rfl⟩ := hrel
    have hle := distB_le (fun j i => (s j).toList == (s i).toList) k
    by_cases hlt : k < n
    · rcases h with rfl | ⟨b, off, rfl, hc⟩
      · omega
      · go_wp2
        go_loopw [5, 6] (fun f j wr => ∃ m e : Nat, m ≤ k ∧ f = .bool true ∧ j = .int .i64 m ∧ anyB (fun j => (s j).toList == (s k).toList) m = false ∧ wr = w.drewN e) (fun _ j _ => k - (intOf j).toNat)
        case atStart => exact ⟨0, d, Nat.zero_le _, rfl, rfl, rfl, rfl⟩
        case round =>
          obtain ⟨m, e, hm, rfl, rfl, hf, rfl⟩ := hrel
          have HF : Hid (anyB (fun j => (s j).toList == (s k).toList) m = false) := hf
          clear hf
          by_cases hltm : m < k
          · obtain ⟨hcm, _⟩ := hc m (by omega)
            obtain ⟨hck, _⟩ := hc k (by omega)
            clear hc
            go_wp2
            go_quiet (fail)
            go_wp2
            · have HD : Hid (distB (fun j i => (s j).toList == (s i).toList) (k + 1) = distB (fun j i => (s j).toList == (s i).toList) k) :=
                distB_seen (same := fun j i => (s j).toList == (s i).toList) ‹_› hltm
              go_roundw
              case rel => exact ⟨k + 1, _, by omega, by go_num, by rw [HD.out], rfl⟩
              case measure => simp [intOf]; omega
            · go_roundw
              case rel => exact ⟨m + 1, _, by omega, rfl, by go_num, anyB_false HF.out ‹_›, rfl⟩
              case measure => simp [intOf]; omega
          · have : m = k := by omega
            subst this
            clear hc
            have HD : Hid (distB (fun j i => (s j).toList == (s i).toList) (m + 1) = distB (fun j i => (s j).toList == (s i).toList) m + 1) := distB_new HF.out
            go_wp2
            go_roundw
            case rel => exact ⟨m + 1, e, by omega, by go_num, by rw [HD.out]; go_num, rfl⟩
            case measure => simp [intOf]; omega
    · go_wp2
      go_ret
      have : k = n := by omega
      subst this
      exact ⟨rfl, d, rfl⟩

set_option maxHeartbeats 800000 in
theorem distinctEvents_any (a : Option Addr) (n c : Nat) (s : Nat → Int) (p : Nat → Bool) (w : World) (h : IsStarts w a n s p) (hn : n ≤ 4096) :
    Calls Try.prog 9 #[.slice a n c] w fun e w' => e = .returned (.int .i64 (distB (fun j i => s j == s i) n)) ∧ ∃ d, w' = w.drewN d := by
  go_enter Try.func9, Try.ntmps9
  go_wp2
  go_loopw [3, 4] (fun t i wr => ∃ k d : Nat, k ≤ n ∧ i = .int .i64 k ∧ t = .int .i64 (distB (fun j i => s j == s i) k) ∧ wr = w.drewN d) (fun _ i _ => n - (intOf i).toNat)
  case atStart => exact ⟨0, 0, Nat.zero_le _, rfl, rfl, rfl⟩
  case round =>
    obtain ⟨k, d, hk, rfl, rfl, rfl⟩ := hrel
    have hle := distB_le (fun j i => s j == s i) k
    by_cases hlt : k < n
    · rcases h with rfl | ⟨b, off, rfl, hc⟩
      · omega
      · go_wp2
        go_loopw [5, 6] (fun f j wr => ∃ m e : Nat, m ≤ k ∧ f = .bool true ∧ j = .int .i64 m ∧ anyB (fun j => s j == s k) m = false ∧ wr = w.drewN e) (fun _ j _ => k - (intOf j).toNat)
        case atStart => exact ⟨0, d, Nat.zero_le _, rfl, rfl, rfl, rfl⟩
        case round =>
          obtain ⟨m, e, hm, rfl, rfl, hf, rfl⟩ := hrel
          have HF : Hid (anyB (fun j => s j == s k) m = false) := hf
          clear hf
          by_cases hltm : m < k
          · obtain ⟨hcm, _⟩ := hc m (by omega)
            obtain ⟨hck, _⟩ := hc k (by omega)
            clear hc
            go_wp2
            go_quiet (fail)
            go_wp2
            · have HD : Hid (distB (fun j i => s j == s i) (k + 1) = distB (fun j i => s j == s i) k) :=
                distB_seen (same := fun j i => s j == s i) ‹_› hltm
              go_roundw
              case rel => exact ⟨k + 1, _, by omega, by go_num, by rw [HD.out], rfl⟩
              case measure => simp [intOf]; omega
            · go_roundw
              case rel => exact ⟨m + 1, _, by omega, rfl, by go_num, anyB_false HF.out ‹_›, rfl⟩
              case measure => simp [intOf]; omega
          · have : m = k := by omega
            subst this
            clear hc
            have HD : Hid (distB (fun j i => s j == s i) (m + 1) = distB (fun j i => s j == s i) m + 1) := distB_new HF.out
            go_wp2
            go_roundw
            case rel => exact ⟨m + 1, e, by omega, by go_num, by rw [HD.out]; go_num, rfl⟩
            case measure => simp [intOf]; omega
    · go_wp2
      go_ret
      have : k = n := by omega
      subst this
      exact ⟨rfl, d, rfl⟩
end Go.Proofs.Qxb6623414a
