import Derived.Test.Qxb6623468aNano
import Derived.Laws.IdiomStrings
namespace Go.Proofs.Qxb6623468a
open Go.RowKit
set_option linter.unusedVariables false

/-- The cells of bytes. -/
def bc (l : List UInt8) : List Value := l.map fun b => .int .u8 (b.toNat : Int)
theorem bc_one (l : List UInt8) : ∀ u ∈ bc l, u.oneCell' = true := by
  intro u hu
  obtain ⟨b, _, rfl⟩ := List.mem_map.1 hu
  rfl
theorem info5 : (Try.prog.info? 5).map (fun i => (i.zero, i.size, i.bytes)) = some (some (.int .u8 0), 1, 1) := by kernel_rfl

/-- zzDigitValue -/
theorem digit_any (c : UInt8) (w : World) : Calls Try.prog 8 #[.int .u8 (c.toNat : Int)] w fun e w' => e = .returned (.int .i64 (((c.toNat : Int) - 48) % 256)) ∧ w' = w := by
  have hc : (c.toNat : Int) < 256 := by have := UInt8.toNat_lt c; omega
  have hc0 : 0 ≤ (c.toNat : Int) := by omega
  generalize (c.toNat : Int) = x at *
  by_cases h : x - 48 < 0
  · go_enter Try.func8, Try.ntmps8
    go_wp2
    go_ret
    exact ⟨ret_int (by omega), rfl⟩
  · go_enter Try.func8, Try.ntmps8
    go_wp2
    go_ret
    exact ⟨ret_int (by omega), rfl⟩

theorem pow_le (k : Nat) (h : k ≤ 8) : (0 : Int) ≤ 10 ^ k ∧ (10 : Int) ^ k ≤ 100000000 := by
  have : k = 0 ∨ k = 1 ∨ k = 2 ∨ k = 3 ∨ k = 4 ∨ k = 5 ∨ k = 6 ∨ k = 7 ∨ k = 8 := by omega
  rcases this with rfl | rfl | rfl | rfl | rfl | rfl | rfl | rfl | rfl <;> decide
def p10 (k : Nat) : Int := 10 ^ k
theorem p10_le (k : Nat) (h : k ≤ 8) : 0 ≤ p10 k ∧ p10 k ≤ 100000000 := pow_le k h
theorem p10_succ (k : Nat) : p10 (k + 1) = p10 k * 10 := Int.pow_succ 10 k
/-- zzPow10 -/
theorem pow_any (n : Nat) (hn : n ≤ 8) (w : World) : Calls Try.prog 9 #[.int .i64 n] w fun e w' => e = .returned (.int .i64 (p10 n)) ∧ w' = w := by
  go_enter Try.func9, Try.ntmps9
  go_wp2
  go_loop [3, 4] (fun t i => ∃ k : Nat, k ≤ n ∧ i = .int .i64 k ∧ t = .int .i64 (p10 k)) (fun _ i => n - (intOf i).toNat)
  case atStart => exact ⟨0, Nat.zero_le _, rfl, rfl⟩
  case round =>
    obtain ⟨k, hk, rfl, rfl⟩ := hrel
    obtain ⟨b0, b1⟩ := p10_le k (by omega)
    by_cases hlt : k < n
    · go_wp2
      go_round
      case rel => exact ⟨k + 1, by omega, by go_num, val_int (p10_succ k).symm⟩
      case measure => simp [intOf]; omega
    · go_wp2
      go_ret
      have : k = n := by omega
      subst this
      exact ⟨rfl, rfl⟩

theorem rep_snoc (k : Nat) : bc (List.replicate (k + 1) 48) = bc (List.replicate k 48) ++ [.int .u8 48] := by
  simp [bc, List.replicate_succ']
theorem take_succ_byte (t : ByteArray) (m : Nat) (h : m < t.size) : t.data.toList.take (m + 1) = t.data.toList.take m ++ [t[m]] := by
  rw [List.take_succ_eq_append_getElem (by simpa using h)]; rfl
theorem take_snoc (k : Nat) (t : ByteArray) (j : Nat) (h : j < t.size) : bc (List.replicate k 48 ++ t.data.toList.take (j + 1)) = bc (List.replicate k 48 ++ t.data.toList.take j) ++ [.int .u8 (t[j].toNat : Int)] := by
  rw [List.take_succ_eq_append_getElem (by simpa using h)]
  simp [bc]
  rfl

/-- THE ROW OF BYTES AS THE LOOPS CARRY IT: block B holds the bytes l. -/
def Row (w wr : World) (cap : Nat) (l : List UInt8) : Prop :=
  wr.ownsRow w.heap.size 5 1 (.slice (some ⟨w.heap.size, 0, none⟩) l.length cap) l.length (bc l) ∧ Below w.heap.size w wr
theorem row_step {w wr w1 : World} {cap n : Nat} {l : List UInt8} {o : Obj} (b : UInt8) (h : Row w wr cap l) (hn : n = l.length)
    (hown : w1.ownsRow w.heap.size 5 1 (.slice (some ⟨w.heap.size, 0, none⟩) (n + 1) cap) (n + 1) (bc l ++ [.int .u8 (b.toNat : Int)])) (hg : (wr.alloc o).grownBy w1 (some w.heap.size)) : Row w w1 cap (l ++ [b]) := by
  subst hn
  refine ⟨?_, ?_⟩
  · have e : bc (l ++ [b]) = bc l ++ [.int .u8 (b.toNat : Int)] := by simp [bc]
    rw [e, List.length_append]
    exact hown
  · exact (h.2.alloc h.2.size o).grown hg (by have := h.2.size; simp; omega) (fun k hk => by cases hk; exact Nat.le_refl _)
theorem row_bytes {w wr : World} {cap : Nat} {l : List UInt8} (h : Row w wr cap l) {n : Nat} (hn : n = l.length) : (convert 32 9 (.slice (some ⟨w.heap.size, 0, none⟩) n cap)).run Try.prog wr = .ok (.string ⟨l.toArray⟩) wr := by
  subst hn
  refine run_convert_bytes_back wr 32 9 5 ⟨w.heap.size, 0, none⟩ cap l Try.underlying32 Try.underlying5 Try.underlying9 (fun j hj => ?_)
  rw [WideShapes.add_plain, Nat.zero_add, h.1.cellAt j (by omega)]
  simp [bc, List.getElem?_eq_getElem hj]

set_option maxHeartbeats 1000000 in
/-- zzZerosThen -/
theorem zeros_any (k : Nat) (t : ByteArray) (w : World) (hk : k ≤ 65536) (ht : t.size ≤ 65536) :
    Calls Try.prog 7 #[.int .i64 k, .string t] w fun e w' => e = .returned (.string ⟨(List.replicate k 48 ++ t.data.toList).toArray⟩) ∧ Below w.heap.size w w' := by
  obtain ⟨i0, hi, hz0, hz1, hz2⟩ := info_parts info5
  go_enter Try.func7, Try.ntmps7
  go_wp2_with (at_make; refine wpList_make_own _ rfl _ _ 32 rfl w.heap.size 5 i0 (.int .u8 0) 1 Try.underlying32 hi hz0 hz1 .i64 .i64 _ (k + t.size) rfl rfl (by omega) (by rw [hz2]; omega) (by unfold maxLen; omega) (Nat.le_refl _) ?_)
  intro w0 hown0 hg0
  have hr0 : Row w w0 (k + t.size) [] := ⟨hown0, (Below.refl _ _).grown hg0 (Nat.le_refl _) (fun k hk => by cases hk)⟩
  clear hown0 hg0
  go_wp2
  go_loopw [5, 6] (fun v i wr => ∃ j : Nat, j ≤ k ∧ i = .int .i64 j ∧ v = .slice (some ⟨w.heap.size, 0, none⟩) j (k + t.size) ∧ Row w wr (k + t.size) (List.replicate j 48)) (fun _ i _ => k - (intOf i).toNat)
  case atStart => exact ⟨0, Nat.zero_le _, rfl, rfl, hr0⟩
  case round =>
    clear hr0
    obtain ⟨j, hj, rfl, rfl, hr⟩ := hrel
    have hown : wr.ownsRow w.heap.size 5 1 (.slice (some ⟨w.heap.size, 0, none⟩) j (k + t.size)) j (bc (List.replicate j 48)) := by simpa using hr.1
    by_cases hlt : j < k
    · go_wp2_with (at_builtin; refine wpList_append_fits _ rfl _ _ 32 rfl w.heap.size 5 i0 1 Try.underlying32 hi hz1 w.heap.size j (k + t.size) _ rfl (hown.alloc _) ⟨wr.heap.size, 0, none⟩ 1 1 [.int .u8 48] rfl rfl (cell_one_new _ _ _) (bc_one [48]) (by omega) ?_)
      intro w1 hown1 hg1
      have hr1 : Row w w1 (k + t.size) (List.replicate (j + 1) 48) := by
        rw [List.replicate_succ']
        exact row_step 48 hr (by simp) hown1 hg1
      clear hown1 hg1 hown hr
      go_wp2
      go_roundw
      case rel => exact ⟨j + 1, by omega, by go_num, rfl, hr1⟩
      case measure => simp [intOf]; omega
    · have : j = k := by omega
      subst this
      clear hown
      go_wp2
      go_loopw [5, 7] (fun v i wr => ∃ m : Nat, m ≤ t.size ∧ i = .int .i64 m ∧ v = .slice (some ⟨w.heap.size, 0, none⟩) (j + m) (j + t.size) ∧ Row w wr (j + t.size) (List.replicate j 48 ++ t.data.toList.take m)) (fun _ i _ => t.size - (intOf i).toNat)
      case atStart => exact ⟨0, Nat.zero_le _, rfl, rfl, by simpa using hr⟩
      case round =>
        clear hr
        obtain ⟨m, hm, rfl, rfl, hr⟩ := hrel
        have hlen : (List.replicate j (48 : UInt8) ++ t.data.toList.take m).length = j + m := by
          have : t.data.toList.length = t.size := by simp
          rw [List.length_append, List.length_replicate, List.length_take]; omega
        by_cases hltm : m < t.size
        · have hown : wr.ownsRow w.heap.size 5 1 (.slice (some ⟨w.heap.size, 0, none⟩) (j + m) (j + t.size)) (j + m) (bc (List.replicate j 48 ++ t.data.toList.take m)) := by have := hr.1; rwa [hlen] at this
          have HL : Hid ((List.replicate j (48 : UInt8) ++ t.data.toList.take m).length = j + m) := hlen
          clear hlen
          have HT : Hid (t.data.toList.take (m + 1) = t.data.toList.take m ++ [t[m]]) := take_succ_byte t m hltm
          go_wp2_with (at_builtin; refine wpList_append_fits _ rfl _ _ 32 rfl w.heap.size 5 i0 1 Try.underlying32 hi hz1 w.heap.size (j + m) (j + t.size) _ rfl (hown.alloc _) ⟨wr.heap.size, 0, none⟩ 1 1 [.int .u8 (t[m].toNat : Int)] rfl rfl (cell_one_new _ _ _) (bc_one [t[m]]) (by omega) ?_)
          intro w1 hown1 hg1
          have hr1 : Row w w1 (j + t.size) (List.replicate j 48 ++ t.data.toList.take (m + 1)) := by
            rw [HT.out, ← List.append_assoc]
            exact row_step t[m] hr HL.out.symm hown1 hg1
          clear hown1 hg1 hown hr
          go_wp2
          go_roundw
          case rel => exact ⟨m + 1, by omega, by go_num, rfl, hr1⟩
          case measure => simp [intOf]; omega
        · have : m = t.size := by omega
          subst this
          have hall : t.data.toList.take t.size = t.data.toList := List.take_of_length_le (by simp)
          rw [hall] at hr hlen
          have hconv := row_bytes hr hlen.symm
          clear hall hlen
          have hb := hr.2
          clear hr
          go_wp2
          go_ret
          exact ⟨rfl, hb⟩
end Go.Proofs.Qxb6623468a
