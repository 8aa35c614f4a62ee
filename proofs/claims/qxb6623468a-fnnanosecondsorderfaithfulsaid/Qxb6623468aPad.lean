import Derived.Test.Qxb6623468aNano
import Derived.Deep.QuietTactic
import Derived.BigQuiet
import Derived.WalkLawsBesides
namespace Go.Proofs.Qxb6623468a
open Go.RowKit
set_option linter.unusedVariables false

/-- zzIsDigits -/
def Digs (s : ByteArray) : Prop := ∀ i (h : i < s.size), 48 ≤ s[i].toNat ∧ s[i].toNat ≤ 57
def DigAns (s : ByteArray) (e : Ending) : Prop := e = .returned (.bool false) ∨ (e = .returned (.bool true) ∧ Digs s)
theorem DigAns.no (s : ByteArray) : DigAns s (.returned (.bool false)) := .inl rfl
theorem DigAns.yes {s : ByteArray} (h : Digs s) : DigAns s (.returned (.bool true)) := .inr ⟨rfl, h⟩

set_option maxHeartbeats 400000 in
theorem isdig_any (s : ByteArray) (w : World) (hs : s.size ≤ 65536) : Calls Try.prog 11 #[.string s] w fun e w' => DigAns s e ∧ w' = w := by
  go_enter Try.func11, Try.ntmps11
  go_wp2
  go_loop [3] (fun i => ∃ k : Nat, k ≤ s.size ∧ i = .int .i64 k ∧ Hid (∀ i (h : i < s.size), i < k → 48 ≤ s[i].toNat ∧ s[i].toNat ≤ 57)) (fun i => s.size - (intOf i).toNat)
  case atStart => exact ⟨0, Nat.zero_le _, rfl, fun i _ h => absurd h (Nat.not_lt_zero _)⟩
  case round =>
    obtain ⟨k, hk, rfl, hd⟩ := hrel
    by_cases hlt : k < s.size
    · by_cases h1 : 48 ≤ s[k].toNat
      · by_cases h2 : s[k].toNat ≤ 57
        · have hd' : Hid (∀ i (h : i < s.size), i < k + 1 → 48 ≤ s[i].toNat ∧ s[i].toNat ≤ 57) := fun i h hi => by
            rcases Nat.lt_succ_iff_lt_or_eq.1 hi with h' | rfl
            · exact hd.out i h h'
            · exact ⟨h1, h2⟩
          go_wp2
          go_round
          case rel => exact ⟨k + 1, by omega, by go_num, hd'⟩
          case measure => simp [intOf]; omega
        · go_wp2
          go_ret
          exact ⟨DigAns.no s, rfl⟩
      · go_wp2
        go_ret
        exact ⟨DigAns.no s, rfl⟩
    · go_wp2
      go_ret
      exact ⟨DigAns.yes (fun i h => hd.out i h (by omega)), rfl⟩

/-- Byte i of the text, padded with '0'. -/
def pad (s : ByteArray) (i : Nat) : Int := if h : i < s.size then (s[i].toNat : Int) else 48
def row9 (f : Nat → Int) : Array Value := #[.int .u8 (f 0), .int .u8 (f 1), .int .u8 (f 2), .int .u8 (f 3), .int .u8 (f 4), .int .u8 (f 5), .int .u8 (f 6), .int .u8 (f 7), .int .u8 (f 8)]

def part (s : ByteArray) (k i : Nat) : Int := if i < k then pad s i else 0
theorem pad_in (s : ByteArray) (i : Nat) (h : i < s.size) : pad s i = (s[i].toNat : Int) := by rw [pad, dif_pos h]
theorem pad_out (s : ByteArray) (i : Nat) (h : ¬ i < s.size) : pad s i = 48 := by rw [pad, dif_neg h]
/-- The two arrays: the result's, still nought; the variable's, filled to place k. -/
def arr (w : World) (s : ByteArray) (k : Nat) : World := (w.alloc (.cells (row9 fun _ => 0) 30)).alloc (.cells (row9 (part s k)) 30)

set_option maxHeartbeats 2000000 in
theorem pad_any (s : ByteArray) (w : World) (hs : s.size ≤ 65536) : Calls Try.prog 13 #[.string s] w fun e w' => e = .returned (.agg (row9 (pad s))) ∧ Below w.heap.size w w' := by
  go_enter Try.func13, Try.ntmps13
  go_wp2
  go_loopw [4] (fun i wr => ∃ k : Nat, k ≤ 9 ∧ i = .int .i64 k ∧ wr = arr w s k) (fun i _ => 9 - (intOf i).toNat)
  case atStart => exact ⟨0, Nat.zero_le _, rfl, rfl⟩
  case round =>
    obtain ⟨k, hk, rfl, rfl⟩ := hrel
    by_cases hlt : k < 9
    · have h9 : k = 0 ∨ k = 1 ∨ k = 2 ∨ k = 3 ∨ k = 4 ∨ k = 5 ∨ k = 6 ∨ k = 7 ∨ k = 8 := by omega
      by_cases hks : k < s.size
      · rcases h9 with rfl | rfl | rfl | rfl | rfl | rfl | rfl | rfl | rfl
        · have HP : Hid (pad s 0 = (s[0].toNat : Int)) := pad_in s 0 hks
          simp only [arr, row9, part]
          go_wp2
          go_roundw
          case rel => exact ⟨1, by omega, rfl, by simp [HP.out]⟩
          case measure => simp [intOf]
        · have HP : Hid (pad s 1 = (s[1].toNat : Int)) := pad_in s 1 hks
          simp only [arr, row9, part]
          go_wp2
          go_roundw
          case rel => exact ⟨2, by omega, rfl, by simp [HP.out]⟩
          case measure => simp [intOf]
        · have HP : Hid (pad s 2 = (s[2].toNat : Int)) := pad_in s 2 hks
          simp only [arr, row9, part]
          go_wp2
          go_roundw
          case rel => exact ⟨3, by omega, rfl, by simp [HP.out]⟩
          case measure => simp [intOf]
        · have HP : Hid (pad s 3 = (s[3].toNat : Int)) := pad_in s 3 hks
          simp only [arr, row9, part]
          go_wp2
          go_roundw
          case rel => exact ⟨4, by omega, rfl, by simp [HP.out]⟩
          case measure => simp [intOf]
        · have HP : Hid (pad s 4 = (s[4].toNat : Int)) := pad_in s 4 hks
          simp only [arr, row9, part]
          go_wp2
          go_roundw
          case rel => exact ⟨5, by omega, rfl, by simp [HP.out]⟩
          case measure => simp [intOf]
        · have HP : Hid (pad s 5 = (s[5].toNat : Int)) := pad_in s 5 hks
          simp only [arr, row9, part]
          go_wp2
          go_roundw
          case rel => exact ⟨6, by omega, rfl, by simp [HP.out]⟩
          case measure => simp [intOf]
        · have HP : Hid (pad s 6 = (s[6].toNat : Int)) := pad_in s 6 hks
          simp only [arr, row9, part]
          go_wp2
          go_roundw
          case rel => exact ⟨7, by omega, rfl, by simp [HP.out]⟩
          case measure => simp [intOf]
        · have HP : Hid (pad s 7 = (s[7].toNat : Int)) := pad_in s 7 hks
          simp only [arr, row9, part]
          go_wp2
          go_roundw
          case rel => exact ⟨8, by omega, rfl, by simp [HP.out]⟩
          case measure => simp [intOf]
        · have HP : Hid (pad s 8 = (s[8].toNat : Int)) := pad_in s 8 hks
          simp only [arr, row9, part]
          go_wp2
          go_roundw
          case rel => exact ⟨9, by omega, rfl, by simp [HP.out]⟩
          case measure => simp [intOf]
      · rcases h9 with rfl | rfl | rfl | rfl | rfl | rfl | rfl | rfl | rfl
        · have HP : Hid (pad s 0 = 48) := pad_out s 0 hks
          simp only [arr, row9, part]
          go_wp2
          go_roundw
          case rel => exact ⟨1, by omega, rfl, by simp [HP.out]⟩
          case measure => simp [intOf]
        · have HP : Hid (pad s 1 = 48) := pad_out s 1 hks
          simp only [arr, row9, part]
          go_wp2
          go_roundw
          case rel => exact ⟨2, by omega, rfl, by simp [HP.out]⟩
          case measure => simp [intOf]
        · have HP : Hid (pad s 2 = 48) := pad_out s 2 hks
          simp only [arr, row9, part]
          go_wp2
          go_roundw
          case rel => exact ⟨3, by omega, rfl, by simp [HP.out]⟩
          case measure => simp [intOf]
        · have HP : Hid (pad s 3 = 48) := pad_out s 3 hks
          simp only [arr, row9, part]
          go_wp2
          go_roundw
          case rel => exact ⟨4, by omega, rfl, by simp [HP.out]⟩
          case measure => simp [intOf]
        · have HP : Hid (pad s 4 = 48) := pad_out s 4 hks
          simp only [arr, row9, part]
          go_wp2
          go_roundw
          case rel => exact ⟨5, by omega, rfl, by simp [HP.out]⟩
          case measure => simp [intOf]
        · have HP : Hid (pad s 5 = 48) := pad_out s 5 hks
          simp only [arr, row9, part]
          go_wp2
          go_roundw
          case rel => exact ⟨6, by omega, rfl, by simp [HP.out]⟩
          case measure => simp [intOf]
        · have HP : Hid (pad s 6 = 48) := pad_out s 6 hks
          simp only [arr, row9, part]
          go_wp2
          go_roundw
          case rel => exact ⟨7, by omega, rfl, by simp [HP.out]⟩
          case measure => simp [intOf]
        · have HP : Hid (pad s 7 = 48) := pad_out s 7 hks
          simp only [arr, row9, part]
          go_wp2
          go_roundw
          case rel => exact ⟨8, by omega, rfl, by simp [HP.out]⟩
          case measure => simp [intOf]
        · have HP : Hid (pad s 8 = 48) := pad_out s 8 hks
          simp only [arr, row9, part]
          go_wp2
          go_roundw
          case rel => exact ⟨9, by omega, rfl, by simp [HP.out]⟩
          case measure => simp [intOf]
    · obtain rfl : k = 9 := by omega
      simp only [arr, row9, part]
      go_wp2
      exact bodyPost_ret (v := .agg (row9 (pad s))) (by simp [results, Try.results13, go_sem, row9]) rfl ⟨rfl, ((Below.refl _ _).alloc (Nat.le_refl _) _).alloc (by simp) _⟩

/-- How two rows of nine compare. -/
def CmpIs (A B : Nat → Int) (c : Int) : Prop :=
  (c = -1 ∧ ∃ k, k < 9 ∧ (∀ i, i < k → A i = B i) ∧ A k < B k) ∨ (c = 1 ∧ ∃ k, k < 9 ∧ (∀ i, i < k → A i = B i) ∧ B k < A k) ∨ (c = 0 ∧ ∀ i, i < 9 → A i = B i)
theorem same_step {A B : Nat → Int} {k : Nat} (h : ∀ i, i < k → A i = B i) (h1 : ¬ A k < B k) (h2 : ¬ B k < A k) : ∀ i, i < k + 1 → A i = B i := fun i hi => by
  rcases Nat.lt_succ_iff_lt_or_eq.1 hi with h' | rfl
  · exact h i h'
  · omega
def CmpAns (A B : Nat → Int) (e : Ending) : Prop := ∃ c, e = .returned (.int .i64 c) ∧ CmpIs A B c
def two (w : World) (A B : Nat → Int) : World := (w.alloc (.cells (row9 A) 30)).alloc (.cells (row9 B) 30)

theorem below2 (w : World) (a b : Obj) : Below w.heap.size w ((w.alloc a).alloc b) := ((Below.refl _ _).alloc (Nat.le_refl _) _).alloc (by simp) _

set_option maxHeartbeats 8000000 in
theorem cmp_any (A B : Nat → Int) (w : World) : Calls Try.prog 12 #[.agg (row9 A), .agg (row9 B)] w fun e w' => CmpAns A B e ∧ Below w.heap.size w w' := by
  simp only [row9]
  go_enter Try.func12, Try.ntmps12
  go_wp2
  go_loopw [5] (fun i wr => ∃ k d : Nat, k ≤ 9 ∧ i = .int .i64 k ∧ Hid (∀ i, i < k → A i = B i) ∧ wr = (two w A B).drewN d) (fun i _ => 9 - (intOf i).toNat)
  case atStart => exact ⟨0, 0, Nat.zero_le _, rfl, fun i h => absurd h (Nat.not_lt_zero _), rfl⟩
  case round =>
    obtain ⟨k, d, hk, rfl, hs, rfl⟩ := hrel
    by_cases hlt : k < 9
    · have h9 : k = 0 ∨ k = 1 ∨ k = 2 ∨ k = 3 ∨ k = 4 ∨ k = 5 ∨ k = 6 ∨ k = 7 ∨ k = 8 := by omega
      by_cases h1 : A k < B k
      · have HA : Hid (CmpIs A B (-1)) := .inl ⟨rfl, k, hlt, hs.out, h1⟩
        clear hs
        rcases h9 with rfl | rfl | rfl | rfl | rfl | rfl | rfl | rfl | rfl
        all_goals
          simp only [two, row9]
          go_wp2
          go_quiet (fail)
          go_wp2
          go_ret
          exact ⟨⟨-1, rfl, HA.out⟩, below_drewN (below_drewN (below2 _ _ _) _) _⟩
      · by_cases h2 : B k < A k
        · have HA : Hid (CmpIs A B 1) := .inr (.inl ⟨rfl, k, hlt, hs.out, h2⟩)
          clear hs
          rcases h9 with rfl | rfl | rfl | rfl | rfl | rfl | rfl | rfl | rfl
          all_goals
            simp only [two, row9]
            go_wp2
            go_quiet (fail)
            go_wp2
            go_quiet (fail)
            go_wp2
            go_ret
            exact ⟨⟨1, rfl, HA.out⟩, below_drewN (below_drewN (below_drewN (below2 _ _ _) _) _) _⟩
        · have HA : Hid (∀ i, i < k + 1 → A i = B i) := same_step hs.out h1 h2
          clear hs
          rcases h9 with rfl | rfl | rfl | rfl | rfl | rfl | rfl | rfl | rfl
          · simp only [two, row9]
            go_wp2
            go_quiet (fail)
            go_wp2
            go_quiet (fail)
            go_wp2
            go_roundw
            case rel => exact ⟨1, _, by omega, rfl, HA, rfl⟩
            case measure => simp [intOf]
          · simp only [two, row9]
            go_wp2
            go_quiet (fail)
            go_wp2
            go_quiet (fail)
            go_wp2
            go_roundw
            case rel => exact ⟨2, _, by omega, rfl, HA, rfl⟩
            case measure => simp [intOf]
          · simp only [two, row9]
            go_wp2
            go_quiet (fail)
            go_wp2
            go_quiet (fail)
            go_wp2
            go_roundw
            case rel => exact ⟨3, _, by omega, rfl, HA, rfl⟩
            case measure => simp [intOf]
          · simp only [two, row9]
            go_wp2
            go_quiet (fail)
            go_wp2
            go_quiet (fail)
            go_wp2
            go_roundw
            case rel => exact ⟨4, _, by omega, rfl, HA, rfl⟩
            case measure => simp [intOf]
          · simp only [two, row9]
            go_wp2
            go_quiet (fail)
            go_wp2
            go_quiet (fail)
            go_wp2
            go_roundw
            case rel => exact ⟨5, _, by omega, rfl, HA, rfl⟩
            case measure => simp [intOf]
          · simp only [two, row9]
            go_wp2
            go_quiet (fail)
            go_wp2
            go_quiet (fail)
            go_wp2
            go_roundw
            case rel => exact ⟨6, _, by omega, rfl, HA, rfl⟩
            case measure => simp [intOf]
          · simp only [two, row9]
            go_wp2
            go_quiet (fail)
            go_wp2
            go_quiet (fail)
            go_wp2
            go_roundw
            case rel => exact ⟨7, _, by omega, rfl, HA, rfl⟩
            case measure => simp [intOf]
          · simp only [two, row9]
            go_wp2
            go_quiet (fail)
            go_wp2
            go_quiet (fail)
            go_wp2
            go_roundw
            case rel => exact ⟨8, _, by omega, rfl, HA, rfl⟩
            case measure => simp [intOf]
          · simp only [two, row9]
            go_wp2
            go_quiet (fail)
            go_wp2
            go_quiet (fail)
            go_wp2
            go_roundw
            case rel => exact ⟨9, _, by omega, rfl, HA, rfl⟩
            case measure => simp [intOf]
    · have HA : Hid (CmpIs A B 0) := .inr (.inr ⟨rfl, fun i hi => hs.out i (by omega)⟩)
      clear hs
      simp only [two, row9]
      go_wp2
      go_ret
      exact ⟨⟨0, rfl, HA.out⟩, below_drewN (below2 _ _ _) _⟩
end Go.Proofs.Qxb6623468a
