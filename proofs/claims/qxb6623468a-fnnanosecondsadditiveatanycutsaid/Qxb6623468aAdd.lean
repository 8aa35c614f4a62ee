import Derived.Test.Qxb6623468aZeros
import Derived.Lib.Strings
namespace Go.Proofs.Qxb6623468a
open Go.RowKit
set_option linter.unusedVariables false

/-! ### plain laws -/
theorem ns_add (f g h : Nat → Int) (e : ∀ i, f i = g i + h i) : ∀ n, ns f n = ns g n + ns h n
  | 0 => rfl
  | n + 1 => by simp only [ns, ns_add f g h e n, e n]; omega
theorem ns_zero (f : Nat → Int) (e : ∀ i, f i = 0) : ∀ n, ns f n = 0
  | 0 => rfl
  | n + 1 => by simp only [ns, ns_zero f e n, e n]; omega
theorem ns_below (f : Nat → Int) (j : Nat) (e : ∀ i, i < j → f i = 0) : ∀ n, n ≤ j → ns f n = 0
  | 0, _ => rfl
  | n + 1, h => by simp only [ns, ns_below f j e n (by omega), e n (by omega)]; omega
theorem ns_one (f : Nat → Int) (j : Nat) (v : Int) (e0 : ∀ i, i ≠ j → f i = 0) (e1 : f j = v) : ∀ d, ns f (j + 1 + d) = v * p10 d
  | 0 => by
    show ns f (j + 1) = v * p10 0
    rw [ns, ns_below f j (fun i h => e0 i (by omega)) j (Nat.le_refl _), e1]
    simp [p10]
  | d + 1 => by
    show ns f (j + 1 + d + 1) = _
    rw [ns, ns_one f j v e0 e1 d, e0 (j + 1 + d) (by omega), p10_succ, Int.mul_assoc, Int.add_zero]

theorem dg_zeros_lt (k : Nat) (l : List UInt8) (i : Nat) (h : i < k) : dg (List.replicate k 48 ++ l) i = 0 := by
  unfold dg
  rw [List.getElem?_append_left (by simpa using h), List.getElem?_eq_getElem (by simpa using h)]
  simp
theorem dg_zeros_ge (k : Nat) (l : List UInt8) (i : Nat) (h : ¬ i < k) : dg (List.replicate k 48 ++ l) i = dg l (i - k) := by
  unfold dg
  rw [List.getElem?_append_right (by simpa using h)]
  simp
theorem dg_cut (l : List UInt8) (k : Nat) (i : Nat) : dg l i = dg (l.take k) i + dg (List.replicate k 48 ++ l.drop k) i := by
  by_cases h : i < k
  · rw [dg_zeros_lt k _ i h]
    unfold dg
    rw [List.getElem?_take_of_lt h]
    omega
  · rw [dg_zeros_ge k _ i h]
    unfold dg
    rw [List.getElem?_eq_none (l := l.take k) (by rw [List.length_take]; omega), List.getElem?_drop, show k + (i - k) = i by omega]
    exact (Int.zero_add _).symm
theorem ns_cut (l : List UInt8) (k : Nat) : ns (dg l) 9 = ns (dg (l.take k)) 9 + ns (dg (List.replicate k 48 ++ l.drop k)) 9 := ns_add _ _ _ (dg_cut l k) 9
/-- One byte behind j zeros. -/
theorem ns_byte (j : Nat) (b : UInt8) : ns (dg (List.replicate j 48 ++ [b])) 9 = if j < 9 then (((b.toNat : Int) - 48) % 256) * p10 (8 - j) else 0 := by
  have e1 : dg (List.replicate j 48 ++ [b]) j = ((b.toNat : Int) - 48) % 256 := by
    rw [dg_zeros_ge j _ j (Nat.lt_irrefl _), Nat.sub_self]; rfl
  have e0 : ∀ i, i ≠ j → dg (List.replicate j 48 ++ [b]) i = 0 := fun i hi => by
    by_cases h : i < j
    · exact dg_zeros_lt j _ i h
    · rw [dg_zeros_ge j _ i h]
      unfold dg
      rw [List.getElem?_eq_none (by simp; omega)]
  by_cases h : j < 9
  · rw [if_pos h, ← ns_one _ j _ e0 e1 (8 - j), show j + 1 + (8 - j) = 9 by omega]
  · rw [if_neg h]
    exact ns_below _ j (fun i hi => e0 i (by omega)) 9 (by omega)

/-! ### the callees, once more, over whatever integers -/
theorem zeros_is (x : Int) (k : Nat) (t : ByteArray) (w : World) (hx : x = k) (h1 : k ≤ 65536) (ht : t.size ≤ 65536) {l : List UInt8} (hl : t.data.toList = l) :
    Calls Try.prog 7 #[.int .i64 x, .string t] w fun e w' => ∃ Z : ByteArray, e = .returned (.string Z) ∧ Hid (Z.data.toList = List.replicate k 48 ++ l) ∧ Below w.heap.size w w' := by
  subst hx hl
  refine (zeros_any k t w h1 ht).mono ?_
  rintro e w' ⟨rfl, hb⟩
  exact ⟨_, rfl, by show _ = _; simp, hb⟩
theorem pow_int (x : Int) (w : World) (h0 : 0 ≤ x) (h1 : x ≤ 8) : Calls Try.prog 9 #[.int .i64 x] w fun e w' => e = .returned (.int .i64 (p10 x.toNat)) ∧ w' = w := by
  obtain ⟨k, rfl⟩ := Int.eq_ofNat_of_zero_le h0
  exact pow_any k (by omega) w
/-- nanoseconds of a text whose bytes are known, its answer known. -/
theorem nano_is (s : ByteArray) (w : World) {l : List UInt8} (hl : Hid (s.data.toList = l)) (hs : l.length ≤ 131073) {v : Int} (hv : ns (dg l) 9 = v) :
    Calls Try.prog 6 #[.string s] w fun e w' => e = .returned (.int .i64 v) ∧ w' = w := by
  have hl' := hl.out
  clear hl
  subst hl' hv
  exact zznano_any s w (by unfold maxLen; have : s.data.toList.length = s.size := by simp
                           omega)

theorem extract_one (s : ByteArray) (k : Nat) (hk : k < s.size) : (s.extract k (k + 1)).data.toList = [s[k]] := by
  rw [Lib.extract_data, show k + 1 - k = 1 by omega, List.drop_eq_getElem_cons (by simpa using hk)]
  simp
  rfl
theorem prod_bd (d p : Int) (h0 : 0 ≤ d) (h1 : d ≤ 255) (p0 : 0 ≤ p) (p1 : p ≤ 100000000) : 0 ≤ d * p ∧ d * p ≤ 25500000000 :=
  ⟨Int.mul_nonneg h0 p0, by have := Int.mul_le_mul h1 p1 p0 (by omega); omega⟩

theorem tail_lt (s : ByteArray) (j : Nat) (hj : j < s.size) (h9 : j < 9) : ∃ d P v : Int,
    Hid (∀ w, Calls Try.prog 8 #[.int .u8 (s[j].toNat : Int)] w fun e w' => e = .returned (.int .i64 d) ∧ w' = w) ∧
    Hid (∀ w, Calls Try.prog 9 #[.int .i64 (8 - (j : Int))] w fun e w' => e = .returned (.int .i64 P) ∧ w' = w) ∧
    Hid ((s.extract j (j + 1)).data.toList = [s[j]]) ∧ Hid (ns (dg (List.replicate j 48 ++ [s[j]])) 9 = v ∧ v = wrap64 (d * P)) := by
  refine ⟨((s[j].toNat : Int) - 48) % 256, p10 (8 - j), _, fun w => digit_any _ w, fun w => ?_, extract_one s j hj, rfl, ?_⟩
  · have := pow_int (8 - (j : Int)) w (by omega) (by omega)
    rwa [show (8 - (j : Int)).toNat = 8 - j by omega] at this
  · rw [ns_byte, if_pos h9]
    have h1 := p10_le (8 - j) (by omega)
    have h2 := prod_bd (((s[j].toNat : Int) - 48) % 256) (p10 (8 - j)) (by omega) (by omega) h1.1 h1.2
    exact (IntWalk.wrap64_in _ (by omega)).symm
theorem tail_ge (s : ByteArray) (j : Nat) (hj : j < s.size) (h9 : ¬ j < 9) : Hid ((s.extract j (j + 1)).data.toList = [s[j]]) ∧ Hid (ns (dg (List.replicate j 48 ++ [s[j]])) 9 = 0) :=
  ⟨extract_one s j hj, by show _ = _; rw [ns_byte, if_neg h9]⟩

set_option maxHeartbeats 2000000 in
theorem add_in (s : ByteArray) (k : Nat) (w : World) (hs : s.size ≤ 65536) (hk : k ≤ s.size) (h0 : 0 < s.size) :
    Calls Try.prog 3 #[.string s, .int .i64 k] w fun e w' => e = .returned (.bool true) ∧ Below w.heap.size w w' := by
  have CB : Hid (∀ w, Calls Try.prog 5 #[.string s, .int .i64 k] w fun e w' => SomeBool e ∧ w' = w) := fun w => bytesA_any s k w (by unfold maxLen; omega)
  go_enter Try.func3, Try.ntmps3
  go_wp2_with fail
  refine (CB.out _).mono ?_
  rintro e w1 ⟨⟨b, rfl⟩, hw⟩
  have hw2 : w = w1 := hw.symm
  clear hw
  subst hw2
  cases b
  · go_wp2
    go_ret
    exact ⟨rfl, Below.refl _ _⟩
  obtain ⟨Hd, hHd⟩ : ∃ v, ns (dg (s.data.toList.take k)) 9 = v := ⟨_, rfl⟩
  obtain ⟨Tl, hTl⟩ : ∃ v, ns (dg (List.replicate k 48 ++ s.data.toList.drop k)) 9 = v := ⟨_, rfl⟩
  have bH := ns_bd (s.data.toList.take k) 9 (Nat.le_refl _)
  have bT := ns_bd (List.replicate k 48 ++ s.data.toList.drop k) 9 (Nat.le_refl _)
  rw [hHd] at bH
  rw [hTl] at bT
  have hW := ns_cut s.data.toList k
  rw [hHd, hTl] at hW
  have C1 : Hid (∀ w, Calls Try.prog 6 #[.string s] w fun e w' => e = .returned (.int .i64 (Hd + Tl)) ∧ w' = w) := fun w => nano_is s w rfl (by simp; omega) hW
  obtain ⟨bH0, bH1⟩ := bH
  obtain ⟨bT0, bT1⟩ := bT
  have HHd : Hid (ns (dg (s.data.toList.take k)) 9 = Hd) := hHd
  have HTl : Hid (ns (dg (List.replicate k 48 ++ s.data.toList.drop k)) 9 = Tl) := hTl
  clear hW hHd hTl
  go_wp2_with fail
  refine (C1.out _).mono ?_
  rintro e w1 ⟨rfl, hw⟩
  have hw2 : w = w1 := hw.symm
  clear hw
  subst hw2
  have HX1 : Hid ((s.extract 0 k).data.toList = s.data.toList.take k) := by
    show (s.extract 0 k).data.toList = s.data.toList.take k
    rw [Lib.extract_data]; simp
  have HX2 : Hid ((s.extract k s.size).data.toList = s.data.toList.drop k) := by
    show (s.extract k s.size).data.toList = s.data.toList.drop k
    rw [Lib.extract_data, List.take_of_length_le (by simp)]
  have lh : (s.data.toList.take k).length ≤ 131073 := by rw [List.length_take]; omega
  have lt : (List.replicate k 48 ++ s.data.toList.drop k).length ≤ 131073 := by simp; omega
  have LH : Hid _ := lh
  have LT : Hid _ := lt
  clear lh lt
  go_wp2_with fail
  refine (nano_is (s.extract 0 k) _ HX1 LH.out HHd.out).mono ?_
  rintro e w1 ⟨rfl, hw⟩
  have hw2 : w = w1 := hw.symm
  clear hw
  subst hw2
  go_wp2_with fail
  refine (zeros_is (k : Int) k (s.extract k s.size) _ rfl (by omega) (by simp; omega) HX2.out).mono ?_
  rintro e w1 ⟨Z, rfl, hZ, hb1⟩
  go_wp2_with fail
  refine (nano_is Z _ hZ LT.out HTl.out).mono ?_
  rintro e w2 ⟨rfl, hw⟩
  have hw2 : w1 = w2 := hw.symm
  clear hw
  subst hw2
  clear HX1 HX2 hZ LH LT HHd HTl C1 CB
  by_cases hkn : k < s.size
  · by_cases h9 : k < 9
    · obtain ⟨d, P, v, C8, C9, hX, HV⟩ := tail_lt s k hkn h9
      have LX : Hid ((List.replicate k (48 : UInt8) ++ [s[k]]).length ≤ 131073) := by show _ ≤ _; simp; omega
      have HW : Hid (v = wrap64 (d * P)) := HV.out.2
      have HN : Hid (ns (dg (List.replicate k 48 ++ [s[k]])) 9 = wrap64 (d * P)) := HV.out.1.trans HW.out
      clear HV HW
      go_wp2_with fail
      refine (C8.out _).mono ?_
      rintro e w2 ⟨rfl, hw⟩
      have hw2 : w1 = w2 := hw.symm
      clear hw
      subst hw2
      go_wp2_with fail
      refine (C9.out _).mono ?_
      rintro e w2 ⟨rfl, hw⟩
      have hw2 : w1 = w2 := hw.symm
      clear hw
      subst hw2
      go_wp2_with fail
      refine (zeros_is (k : Int) k _ _ rfl (by omega) (by simp; omega) hX.out).mono ?_
      rintro e w2 ⟨Z2, rfl, hZ2, hb2⟩
      go_wp2_with fail
      refine (nano_is Z2 _ hZ2 LX.out HN.out).mono ?_
      rintro e w3 ⟨rfl, hw⟩
      have hw2 : w2 = w3 := hw.symm
      clear hw
      subst hw2
      go_wp2
      go_ret
      exact ⟨rfl, hb1.trans (hb2.mono hb1.size)⟩
    · obtain ⟨hX, HN⟩ := tail_ge s k hkn h9
      have LX : Hid ((List.replicate k (48 : UInt8) ++ [s[k]]).length ≤ 131073) := by show _ ≤ _; simp; omega
      go_wp2_with fail
      refine (zeros_is (k : Int) k _ _ rfl (by omega) (by simp; omega) hX.out).mono ?_
      rintro e w2 ⟨Z2, rfl, hZ2, hb2⟩
      go_wp2_with fail
      refine (nano_is Z2 _ hZ2 LX.out HN.out).mono ?_
      rintro e w3 ⟨rfl, hw⟩
      have hw2 : w2 = w3 := hw.symm
      clear hw
      subst hw2
      go_wp2
      go_ret
      exact ⟨rfl, hb1.trans (hb2.mono hb1.size)⟩
  · have hj : s.size - 1 < s.size := by omega
    by_cases h9 : s.size - 1 < 9
    · obtain ⟨d, P, v, C8, C9, hX, HV⟩ := tail_lt s (s.size - 1) hj h9
      have LX : Hid ((List.replicate (s.size - 1) (48 : UInt8) ++ [s[s.size - 1]]).length ≤ 131073) := by show _ ≤ _; simp; omega
      have HW : Hid (v = wrap64 (d * P)) := HV.out.2
      have HN : Hid (ns (dg (List.replicate (s.size - 1) 48 ++ [s[s.size - 1]])) 9 = wrap64 (d * P)) := HV.out.1.trans HW.out
      have HX : Hid ((s.extract (s.size - 1) s.size).data.toList = [s[s.size - 1]]) := by
        have := hX.out
        rwa [show s.size - 1 + 1 = s.size by omega] at this
      have C9' : Hid (∀ w, Calls Try.prog 9 #[.int .i64 (8 - ((s.size : Int) - 1))] w fun e w' => e = .returned (.int .i64 P) ∧ w' = w) := by
        have := C9.out
        rwa [show ((s.size - 1 : Nat) : Int) = (s.size : Int) - 1 by omega] at this
      clear HV HW hX C9
      go_wp2_with fail
      refine (C8.out _).mono ?_
      rintro e w2 ⟨rfl, hw⟩
      have hw2 : w1 = w2 := hw.symm
      clear hw
      subst hw2
      go_wp2_with fail
      refine (C9'.out _).mono ?_
      rintro e w2 ⟨rfl, hw⟩
      have hw2 : w1 = w2 := hw.symm
      clear hw
      subst hw2
      go_wp2_with fail
      refine (zeros_is ((s.size : Int) - 1) (s.size - 1) _ _ (by omega) (by omega) (by simp; omega) HX.out).mono ?_
      rintro e w2 ⟨Z2, rfl, hZ2, hb2⟩
      go_wp2_with fail
      refine (nano_is Z2 _ hZ2 LX.out HN.out).mono ?_
      rintro e w3 ⟨rfl, hw⟩
      have hw2 : w2 = w3 := hw.symm
      clear hw
      subst hw2
      go_wp2
      go_ret
      exact ⟨rfl, hb1.trans (hb2.mono hb1.size)⟩
    · obtain ⟨hX, HN⟩ := tail_ge s (s.size - 1) hj h9
      have LX : Hid ((List.replicate (s.size - 1) (48 : UInt8) ++ [s[s.size - 1]]).length ≤ 131073) := by show _ ≤ _; simp; omega
      have HX : Hid ((s.extract (s.size - 1) s.size).data.toList = [s[s.size - 1]]) := by
        have := hX.out
        rwa [show s.size - 1 + 1 = s.size by omega] at this
      clear hX
      go_wp2_with fail
      refine (zeros_is ((s.size : Int) - 1) (s.size - 1) _ _ (by omega) (by omega) (by simp; omega) HX.out).mono ?_
      rintro e w2 ⟨Z2, rfl, hZ2, hb2⟩
      go_wp2_with fail
      refine (nano_is Z2 _ hZ2 LX.out HN.out).mono ?_
      rintro e w3 ⟨rfl, hw⟩
      have hw2 : w2 = w3 := hw.symm
      clear hw
      subst hw2
      go_wp2
      go_ret
      exact ⟨rfl, hb1.trans (hb2.mono hb1.size)⟩

/-- The empty text. -/
theorem add_empty (s : ByteArray) (w : World) (h0 : s.size = 0) :
    Calls Try.prog 3 #[.string s, .int .i64 0] w fun e w' => e = .returned (.bool true) ∧ Below w.heap.size w w' := by
  obtain rfl : s = ⟨#[]⟩ := by
    apply ByteArray.ext
    exact Array.eq_empty_of_size_eq_zero h0
  have CB : Hid (∀ w, Calls Try.prog 5 #[.string ⟨#[]⟩, .int .i64 0] w fun e w' => SomeBool e ∧ w' = w) := fun w => bytesA_any ⟨#[]⟩ 0 w (by unfold maxLen; simp [ByteArray.size])
  have C1 : Hid (∀ w, Calls Try.prog 6 #[.string ⟨#[]⟩] w fun e w' => e = .returned (.int .i64 0) ∧ w' = w) := fun w => nano_is ⟨#[]⟩ w rfl (by simp) (ns_zero _ (fun i => by simp [dg]) 9)
  have C2 : Hid (∀ w, Calls Try.prog 6 #[.string ByteArray.empty] w fun e w' => e = .returned (.int .i64 0) ∧ w' = w) := fun w => nano_is ByteArray.empty w rfl (by simp) (ns_zero _ (fun i => by simp [dg]) 9)
  go_enter Try.func3, Try.ntmps3
  go_wp2_with fail
  refine (CB.out _).mono ?_
  rintro e w1 ⟨⟨b, rfl⟩, hw⟩
  have hw2 : w = w1 := hw.symm
  clear hw
  subst hw2
  cases b
  · go_wp2
    go_ret
    exact ⟨rfl, Below.refl _ _⟩
  go_wp2_with fail
  refine (C1.out _).mono ?_
  rintro e w1 ⟨rfl, hw⟩
  have hw2 : w = w1 := hw.symm
  clear hw
  subst hw2
  go_wp2_with fail
  refine (C2.out _).mono ?_
  rintro e w1 ⟨rfl, hw⟩
  have hw2 : w = w1 := hw.symm
  clear hw
  subst hw2
  go_wp2_with fail
  refine (zeros_is 0 0 _ _ rfl (by omega) (by simp) (l := []) rfl).mono ?_
  rintro e w1 ⟨Z, rfl, hZ, hb1⟩
  go_wp2_with fail
  refine (nano_is Z _ hZ (by simp) (ns_zero _ (fun i => by simp [dg]) 9)).mono ?_
  rintro e w2 ⟨rfl, hw⟩
  have hw2 : w1 = w2 := hw.symm
  clear hw
  subst hw2
  go_wp2
  go_ret
  exact ⟨rfl, hb1⟩

theorem add_out (s : ByteArray) (k : Int) (w : World) (hs : s.size ≤ maxLen) (h : 65536 < s.size ∨ k < 0 ∨ (s.size : Int) < k) :
    Calls Try.prog 3 #[.string s, .int .i64 k] w fun e w' => e = .returned (.bool true) ∧ Below w.heap.size w w' := by
  have CB : Hid (∀ w, Calls Try.prog 5 #[.string s, .int .i64 k] w fun e w' => SomeBool e ∧ w' = w) := fun w => bytesA_any s k w hs
  unfold maxLen at hs
  go_enter Try.func3, Try.ntmps3
  go_wp2_with fail
  refine (CB.out _).mono ?_
  rintro e w1 ⟨⟨b, rfl⟩, hw⟩
  have hw2 : w = w1 := hw.symm
  clear hw
  subst hw2
  cases b
  · go_wp2
    go_ret
    exact ⟨rfl, Below.refl _ _⟩
  by_cases h1 : s.size ≤ 65536
  · by_cases h2 : k < 0
    · go_wp2
      go_ret
      exact ⟨rfl, Below.refl _ _⟩
    · have h3 : (s.size : Int) < k := by omega
      go_wp2
      go_ret
      exact ⟨rfl, Below.refl _ _⟩
  · go_wp2
    go_ret
    exact ⟨rfl, Below.refl _ _⟩
end Go.Proofs.Qxb6623468a
