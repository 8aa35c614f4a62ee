import Derived.Test.Qxb6623455aRows
import Derived.WalkKit
import Derived.WalkSpells
namespace Go.Proofs.Qxb6623455a
open Go.RowKit

/-- The first positive one of the m numbers from place k on; d where there is none. -/
def fp (z : Nat → Int) (d : Int) : Nat → Nat → Int
  | 0, _ => d
  | m + 1, k => if 0 < z k then z k else fp z d m (k + 1)

theorem fp_hit {z : Nat → Int} {d : Int} {n k : Nat} (hk : k < n) (h : 0 < z k) : fp z d (n - k) k = z k := by
  rw [show n - k = (n - (k + 1)) + 1 by omega, fp, if_pos h]
theorem fp_miss {z : Nat → Int} {d : Int} {n k : Nat} (hk : k < n) (h : ¬ 0 < z k) : fp z d (n - k) k = fp z d (n - (k + 1)) (k + 1) := by
  rw [show n - k = (n - (k + 1)) + 1 by omega, fp, if_neg h]
theorem fp_end {z : Nat → Int} {d : Int} {n : Nat} : fp z d (n - n) n = d := by rw [Nat.sub_self]; rfl

/-- A slice of ints that came in. -/
def IsInts (w : World) (a : Option Addr) (n : Nat) (z : Nat → Int) : Prop :=
  n = 0 ∨ ∃ b off, a = some ⟨b, off, none⟩ ∧ ∀ i, i < n → w.cell? ⟨b, off + i, none⟩ = some (.int .i64 (z i))

theorem ret_int {k : IntKind} {a b : Int} (h : a = b) : Ending.returned (.int k a) = .returned (.int k b) := by rw [h]
def SomeBool (e : Ending) : Prop := ∃ b, e = .returned (.bool b)
theorem SomeBool.mk (b : Bool) : SomeBool (.returned (.bool b)) := ⟨b, rfl⟩

theorem bytes_any (a : Option Addr) (n c : Nat) (d : Int) (w : World) (hn : n ≤ maxLen) : Calls Try.prog 4 #[.slice a n c, .int .i64 d] w fun e w' => SomeBool e ∧ w' = w := by
  unfold maxLen at hn
  go_enter Try.func4, Try.ntmps4
  go_wp2
  all_goals (go_ret; exact ⟨SomeBool.mk _, rfl⟩)

/-- orDefault -/
theorem or_any (x d : Int) (w : World) : Calls Try.prog 7 #[.int .i64 x, .int .i64 d] w fun e w' => e = .returned (.int .i64 (if 0 < x then x else d)) ∧ w' = w := by
  by_cases h : 0 < x
  · have h' : ¬ x ≤ 0 := by omega
    go_enter Try.func7, Try.ntmps7
    go_wp2
    go_ret
    exact ⟨rfl, rfl⟩
  · have h' : x ≤ 0 := by omega
    go_enter Try.func7, Try.ntmps7
    go_wp2
    go_ret
    exact ⟨rfl, rfl⟩
theorem zzor_any (x d : Int) (w : World) : Calls Try.prog 5 #[.int .i64 x, .int .i64 d] w fun e w' => e = .returned (.int .i64 (if 0 < x then x else d)) ∧ w' = w := by
  obtain ⟨y, hy⟩ : ∃ y, y = if 0 < x then x else d := ⟨_, rfl⟩
  have c := or_any x d
  rw [← hy] at c ⊢
  clear hy
  have C : Hid (∀ w, Calls Try.prog 7 #[.int .i64 x, .int .i64 d] w fun e w' => e = .returned (.int .i64 y) ∧ w' = w) := c
  clear c
  go_enter Try.func5, Try.ntmps5
  go_wp2_with fail
  refine (C.out _).mono ?_
  rintro e w' ⟨rfl, rfl⟩
  go_wp2
  go_ret
  exact ⟨rfl, rfl⟩

set_option maxHeartbeats 400000 in
theorem first_any (a : Option Addr) (n c : Nat) (z : Nat → Int) (d : Int) (w : World) (h : IsInts w a n z) (hn : n ≤ maxLen) :
    Calls Try.prog 6 #[.slice a n c, .int .i64 d] w fun e w' => e = .returned (.int .i64 (fp z d n 0)) ∧ w' = w := by
  unfold maxLen at hn
  go_enter Try.func6, Try.ntmps6
  go_wp2
  go_loop [5] (fun i => ∃ k : Nat, k ≤ n ∧ i = .int .i64 k ∧ fp z d n 0 = fp z d (n - k) k) (fun i => n - (intOf i).toNat)
  case atStart => exact ⟨0, Nat.zero_le _, rfl, rfl⟩
  case round =>
    obtain ⟨k, hk, rfl, hf⟩ := hrel
    have HF : Hid (fp z d n 0 = fp z d (n - k) k) := hf
    clear hf
    by_cases hlt : k < n
    · rcases h with rfl | ⟨b, off, rfl, hc⟩
      · omega
      · have hck := hc k hlt
        clear hc
        by_cases hp : 0 < z k
        · go_wp2
          go_ret
          exact ⟨ret_int (by rw [HF.out, fp_hit hlt hp]), rfl⟩
        · go_wp2
          go_round
          case rel => exact ⟨k + 1, by omega, by go_num, by rw [HF.out, fp_miss hlt hp]⟩
          case measure => simp [intOf]; omega
    · go_wp2
      go_ret
      have : k = n := by omega
      subst this
      exact ⟨ret_int (by rw [HF.out, fp_end]), rfl⟩

set_option maxHeartbeats 400000 in
theorem main_any (a : Option Addr) (n c : Nat) (z : Nat → Int) (d : Int) (w : World) (h : IsInts w a n z) (hn : n ≤ maxLen) :
    Calls Try.prog 3 #[.slice a n c, .int .i64 d] w fun e w' => e = .returned (.bool true) ∧ w' = w := by
  have HB := bytes_any a n c d
  have HB' : Hid (∀ w, n ≤ maxLen → Calls Try.prog 4 #[.slice a n c, .int .i64 d] w fun e w' => SomeBool e ∧ w' = w) := HB
  clear HB
  go_enter Try.func3, Try.ntmps3
  go_wp2_with fail
  refine (HB'.out _ hn).mono ?_
  rintro e w' ⟨⟨b, rfl⟩, rfl⟩
  cases b
  · go_wp2
    go_ret
    exact ⟨rfl, rfl⟩
  by_cases hl : n ≤ 65536
  · go_wp2
    go_loop [5, 6] (fun t i => ∃ k : Nat, k ≤ n ∧ i = .int .i64 ((k : Int) - 1) ∧ t = .int .i64 (fp z d (n - k) k)) (fun _ i => (intOf i + 1).toNat)
    case atStart => exact ⟨n, Nat.le_refl _, rfl, by rw [fp_end]⟩
    case round =>
      obtain ⟨k, hk, rfl, rfl⟩ := hrel
      cases k with
      | zero =>
        go_wp2_with fail
        refine (first_any a n c z d _ h hn).mono ?_
        rintro e w1 ⟨rfl, rfl⟩
        go_wp2
        go_ret
        exact ⟨rfl, rfl⟩
      | succ k =>
        have hlt : k < n := by omega
        rw [show (((k + 1 : Nat) : Int) - 1) = (k : Int) by omega]
        rcases h with rfl | ⟨b, off, rfl, hc⟩
        · omega
        have hck := hc k hlt
        clear hc
        obtain ⟨y, hy⟩ : ∃ y, y = fp z d (n - (k + 1)) (k + 1) := ⟨_, rfl⟩
        obtain ⟨x, hx⟩ : ∃ x, x = if 0 < z k then z k else fp z d (n - (k + 1)) (k + 1) := ⟨_, rfl⟩
        have hxx : Hid (fp z d (n - k) k = x) := by
          show fp z d (n - k) k = x
          rw [hx, show n - k = (n - (k + 1)) + 1 by omega, fp]
        have C : Hid (∀ w, Calls Try.prog 5 #[.int .i64 (z k), .int .i64 (fp z d (n - (k + 1)) (k + 1))] w fun e w' => e = .returned (.int .i64 x) ∧ w' = w) := by
          rw [hx]; exact zzor_any (z k) (fp z d (n - (k + 1)) (k + 1))
        rw [← hy] at C ⊢
        clear hx hy
        go_wp2_with fail
        refine (C.out _).mono ?_
        rintro e w1 ⟨rfl, rfl⟩
        go_wp2
        go_round
        case rel => exact ⟨k, by omega, rfl, by rw [hxx.out]⟩
        case measure => simp [intOf]
  · go_wp2
    go_ret
    exact ⟨rfl, rfl⟩
end Go.Proofs.Qxb6623455a
