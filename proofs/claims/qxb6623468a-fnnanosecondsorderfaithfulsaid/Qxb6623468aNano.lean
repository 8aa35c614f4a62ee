import Derived.Test.Qxb6623468aRows
import Derived.WalkKit
import Derived.WalkSpells
namespace Go.Proofs.Qxb6623468a
open Go.RowKit
set_option linter.unusedVariables false

/-- What byte i of l is worth as a digit (modulo 256); 0 behind the end. -/
def dg (l : List UInt8) (i : Nat) : Int := match l[i]? with
  | some b => ((b.toNat : Int) - 48) % 256
  | none => 0
/-- The first n digits, as one number. -/
def ns (f : Nat → Int) : Nat → Int
  | 0 => 0
  | n + 1 => ns f n * 10 + f n
theorem dg_bd (l : List UInt8) (i : Nat) : 0 ≤ dg l i ∧ dg l i ≤ 255 := by
  unfold dg
  split <;> omega
def cap10 : Nat → Int
  | 0 => 0
  | n + 1 => cap10 n * 10 + 255
theorem cap10_le (n : Nat) (h : n ≤ 9) : cap10 n ≤ 28333333305 := by
  have : n = 0 ∨ n = 1 ∨ n = 2 ∨ n = 3 ∨ n = 4 ∨ n = 5 ∨ n = 6 ∨ n = 7 ∨ n = 8 ∨ n = 9 := by omega
  rcases this with rfl | rfl | rfl | rfl | rfl | rfl | rfl | rfl | rfl | rfl <;> decide
theorem ns_cap (l : List UInt8) : ∀ n, 0 ≤ ns (dg l) n ∧ ns (dg l) n ≤ cap10 n
  | 0 => by simp [ns, cap10]
  | n + 1 => by
    have h := ns_cap l n
    have := dg_bd l n
    simp only [ns, cap10]
    omega
theorem ns_bd (l : List UInt8) (n : Nat) (h : n ≤ 9) : 0 ≤ ns (dg l) n ∧ ns (dg l) n ≤ 28333333305 :=
  ⟨(ns_cap l n).1, Int.le_trans (ns_cap l n).2 (cap10_le n h)⟩
theorem dg_in (s : ByteArray) (k : Nat) (h : k < s.size) : dg s.data.toList k = ((s[k].toNat : Int) - 48) % 256 := by
  unfold dg
  rw [List.getElem?_eq_getElem (by simpa using h)]
  rfl
theorem dg_out (s : ByteArray) (k : Nat) (h : ¬ k < s.size) : dg s.data.toList k = 0 := by
  unfold dg
  rw [List.getElem?_eq_none (by simpa using h)]

theorem val_int {k : IntKind} {a b : Int} (h : a = b) : Value.int k a = .int k b := by rw [h]
theorem ret_int {k : IntKind} {a b : Int} (h : a = b) : Ending.returned (.int k a) = .returned (.int k b) := by rw [h]

set_option maxHeartbeats 400000 in
theorem nano_any (s : ByteArray) (w : World) (hs : s.size ≤ maxLen) :
    Calls Try.prog 14 #[.string s] w fun e w' => e = .returned (.int .i64 (ns (dg s.data.toList) 9)) ∧ w' = w := by
  unfold maxLen at hs
  go_enter Try.func14, Try.ntmps14
  go_wp2
  go_loop [3, 5] (fun t i => ∃ k : Nat, k ≤ 9 ∧ i = .int .i64 k ∧ t = .int .i64 (ns (dg s.data.toList) k)) (fun _ i => 9 - (intOf i).toNat)
  case atStart => exact ⟨0, Nat.zero_le _, rfl, rfl⟩
  case round =>
    obtain ⟨k, hk, rfl, rfl⟩ := hrel
    obtain ⟨b0, b1⟩ := ns_bd s.data.toList k hk
    by_cases hlt : k < 9
    · by_cases hks : k < s.size
      · have HD : Hid (dg s.data.toList k = ((s[k].toNat : Int) - 48) % 256) := dg_in s k hks
        go_wp2
        go_round
        case rel => exact ⟨k + 1, by omega, by go_num, val_int (by rw [ns, HD.out])⟩
        case measure => simp [intOf]; omega
      · have HD : Hid (dg s.data.toList k = 0) := dg_out s k hks
        go_wp2
        go_round
        case rel => exact ⟨k + 1, by omega, by go_num, val_int (by rw [ns, HD.out, Int.add_zero])⟩
        case measure => simp [intOf]; omega
    · go_wp2
      go_ret
      have : k = 9 := by omega
      subst this
      exact ⟨rfl, rfl⟩

theorem zznano_any (s : ByteArray) (w : World) (hs : s.size ≤ maxLen) :
    Calls Try.prog 6 #[.string s] w fun e w' => e = .returned (.int .i64 (ns (dg s.data.toList) 9)) ∧ w' = w := by
  have C : Hid (∀ w, Calls Try.prog 14 #[.string s] w fun e w' => e = .returned (.int .i64 (ns (dg s.data.toList) 9)) ∧ w' = w) := fun w => nano_any s w hs
  go_enter Try.func6, Try.ntmps6
  go_wp2_with fail
  refine (C.out _).mono ?_
  rintro e w' ⟨rfl, rfl⟩
  go_wp2
  go_ret
  exact ⟨rfl, rfl⟩

def SomeBool (e : Ending) : Prop := ∃ b, e = .returned (.bool b)
theorem SomeBool.mk (b : Bool) : SomeBool (.returned (.bool b)) := ⟨b, rfl⟩

theorem bytesA_any (s : ByteArray) (d : Int) (w : World) (hs : s.size ≤ maxLen) : Calls Try.prog 5 #[.string s, .int .i64 d] w fun e w' => SomeBool e ∧ w' = w := by
  unfold maxLen at hs
  go_enter Try.func5, Try.ntmps5
  go_wp2
  all_goals (go_ret; exact ⟨SomeBool.mk _, rfl⟩)
theorem bytesO_any (s t : ByteArray) (w : World) (hs : s.size ≤ maxLen) (ht : t.size ≤ maxLen) : Calls Try.prog 10 #[.string s, .string t] w fun e w' => SomeBool e ∧ w' = w := by
  unfold maxLen at hs ht
  go_enter Try.func10, Try.ntmps10
  go_wp2
  all_goals (go_ret; exact ⟨SomeBool.mk _, rfl⟩)
end Go.Proofs.Qxb6623468a
