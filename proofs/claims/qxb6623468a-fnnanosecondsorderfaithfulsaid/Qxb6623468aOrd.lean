import Derived.Test.Qxb6623468aPad
namespace Go.Proofs.Qxb6623468a
open Go.RowKit
set_option linter.unusedVariables false

/-! ### plain laws: nine digits compare as the numbers that they name -/
def Dig (f : Nat → Int) : Prop := ∀ i, 0 ≤ f i ∧ f i ≤ 9
def nines : Nat → Int
  | 0 => 0
  | n + 1 => nines n * 10 + 9
theorem ns_nines {f : Nat → Int} (h : Dig f) : ∀ n, 0 ≤ ns f n ∧ ns f n ≤ nines n
  | 0 => by simp [ns, nines]
  | n + 1 => by
    have := ns_nines h n
    have := h n
    simp only [ns, nines]
    omega
theorem ns_max {f : Nat → Int} (h : Dig f) : 0 ≤ ns f 9 ∧ ns f 9 ≤ 999999999 := ns_nines h 9
theorem ns_same {f g : Nat → Int} : ∀ n, (∀ i, i < n → f i = g i) → ns f n = ns g n
  | 0, _ => rfl
  | n + 1, h => by simp only [ns, ns_same n (fun i hi => h i (by omega)), h n (by omega)]
theorem ns_less {f g : Nat → Int} (hf : Dig f) (hg : Dig g) {k : Nat} (h : ∀ i, i < k → f i = g i) (hk : f k < g k) : ∀ n, k < n → ns f n < ns g n
  | 0, h0 => absurd h0 (Nat.not_lt_zero _)
  | n + 1, h0 => by
    have h1 := hf n
    have h2 := hg n
    rcases Nat.lt_succ_iff_lt_or_eq.1 h0 with h' | rfl
    · have := ns_less hf hg h hk n h'
      simp only [ns]
      omega
    · have := ns_same k h
      simp only [ns]
      omega

theorem dig_pad {s : ByteArray} (h : Digs s) (i : Nat) : pad s i = dg s.data.toList i + 48 := by
  by_cases hi : i < s.size
  · rw [pad_in s i hi, dg_in s i hi]
    have := h i hi
    omega
  · rw [pad_out s i hi, dg_out s i hi]; rfl
theorem dig_of {s : ByteArray} (h : Digs s) : Dig (dg s.data.toList) := fun i => by
  by_cases hi : i < s.size
  · rw [dg_in s i hi]
    have := h i hi
    omega
  · rw [dg_out s i hi]; omega

/-- What the comparison tells of the two numbers. -/
theorem cmp_ns {a b : ByteArray} (ha : Digs a) (hb : Digs b) {c : Int} (h : CmpIs (pad a) (pad b) c) :
    (c = -1 ∧ ns (dg a.data.toList) 9 < ns (dg b.data.toList) 9) ∨ (c = 1 ∧ ns (dg b.data.toList) 9 < ns (dg a.data.toList) 9) ∨ (c = 0 ∧ ns (dg a.data.toList) 9 = ns (dg b.data.toList) 9) := by
  have e : ∀ i, pad a i = pad b i → dg a.data.toList i = dg b.data.toList i := fun i h => by rw [dig_pad ha, dig_pad hb] at h; omega
  rcases h with ⟨rfl, k, hk, h1, h2⟩ | ⟨rfl, k, hk, h1, h2⟩ | ⟨rfl, h1⟩
  · refine .inl ⟨rfl, ns_less (dig_of ha) (dig_of hb) (fun i hi => e i (h1 i hi)) ?_ 9 hk⟩
    rw [dig_pad ha, dig_pad hb] at h2; omega
  · refine .inr (.inl ⟨rfl, ns_less (dig_of hb) (dig_of ha) (fun i hi => (e i (h1 i hi)).symm) ?_ 9 hk⟩)
    rw [dig_pad ha, dig_pad hb] at h2; omega
  · exact .inr (.inr ⟨rfl, ns_same 9 (fun i hi => e i (h1 i hi))⟩)

set_option maxHeartbeats 2000000 in
theorem order_any (a b : ByteArray) (w : World) (ha : a.size ≤ maxLen) (hb : b.size ≤ maxLen) :
    Calls Try.prog 4 #[.string a, .string b] w fun e w' => e = .returned (.bool true) ∧ Below w.heap.size w w' := by
  have CB : Hid (∀ w, Calls Try.prog 10 #[.string a, .string b] w fun e w' => SomeBool e ∧ w' = w) := fun w => bytesO_any a b w ha hb
  unfold maxLen at ha hb
  go_enter Try.func4, Try.ntmps4
  go_wp2_with fail
  refine (CB.out _).mono ?_
  rintro e w1 ⟨⟨x, rfl⟩, hw⟩
  have hw2 : w = w1 := hw.symm
  clear hw
  subst hw2
  cases x
  · go_wp2
    go_ret
    exact ⟨rfl, Below.refl _ _⟩
  by_cases la : a.size ≤ 65536
  rotate_left
  · go_wp2
    go_ret
    exact ⟨rfl, Below.refl _ _⟩
  by_cases lb : b.size ≤ 65536
  rotate_left
  · go_wp2
    go_ret
    exact ⟨rfl, Below.refl _ _⟩
  go_wp2_with fail
  refine (isdig_any a _ la).mono ?_
  rintro e w1 ⟨hA, hw⟩
  have hw2 : w = w1 := hw.symm
  clear hw
  subst hw2
  rcases hA with rfl | ⟨rfl, dA⟩
  · go_wp2
    go_ret
    exact ⟨rfl, Below.refl _ _⟩
  go_wp2_with fail
  refine (isdig_any b _ lb).mono ?_
  rintro e w1 ⟨hB, hw⟩
  have hw2 : w = w1 := hw.symm
  clear hw
  subst hw2
  rcases hB with rfl | ⟨rfl, dB⟩
  · go_wp2
    go_ret
    exact ⟨rfl, Below.refl _ _⟩
  obtain ⟨bA0, bA1⟩ := ns_max (dig_of dA)
  obtain ⟨bB0, bB1⟩ := ns_max (dig_of dB)
  obtain ⟨nA, hnA⟩ : ∃ v, ns (dg a.data.toList) 9 = v := ⟨_, rfl⟩
  obtain ⟨nB, hnB⟩ : ∃ v, ns (dg b.data.toList) 9 = v := ⟨_, rfl⟩
  have C1 : Hid (∀ w, Calls Try.prog 6 #[.string a] w fun e w' => e = .returned (.int .i64 nA) ∧ w' = w) := fun w => hnA ▸ zznano_any a w (by unfold maxLen; omega)
  have C2 : Hid (∀ w, Calls Try.prog 6 #[.string b] w fun e w' => e = .returned (.int .i64 nB) ∧ w' = w) := fun w => hnB ▸ zznano_any b w (by unfold maxLen; omega)
  rw [hnA] at bA0 bA1
  rw [hnB] at bB0 bB1
  have HC : Hid (∀ c, CmpIs (pad a) (pad b) c → (c = -1 ∧ nA < nB) ∨ (c = 1 ∧ nB < nA) ∨ (c = 0 ∧ nA = nB)) := fun c h => by
    have := cmp_ns dA dB h
    rwa [hnA, hnB] at this
  clear hnA hnB dA dB
  go_wp2_with fail
  refine (C1.out _).mono ?_
  rintro e w1 ⟨rfl, hw⟩
  have hw2 : w = w1 := hw.symm
  clear hw
  subst hw2
  go_wp2_with fail
  refine (C2.out _).mono ?_
  rintro e w1 ⟨rfl, hw⟩
  have hw2 : w = w1 := hw.symm
  clear hw
  subst hw2
  go_wp2_with fail
  refine (pad_any a _ la).mono ?_
  rintro e w1 ⟨rfl, hb1⟩
  go_wp2_with fail
  refine (pad_any b _ lb).mono ?_
  rintro e w2 ⟨rfl, hb2⟩
  go_wp2_with fail
  refine (cmp_any (pad a) (pad b) _).mono ?_
  rintro e w3 ⟨⟨c, rfl, hc⟩, hb3⟩
  have hbel := hb1.trans ((hb2.trans (hb3.mono hb2.size)).mono hb1.size)
  have hcc := HC.out c hc
  clear hc HC C1 C2 CB hb1 hb2 hb3
  rcases hcc with ⟨rfl, hlt⟩ | ⟨rfl, hlt⟩ | ⟨rfl, hlt⟩
  · go_wp2
    go_ret
    exact ⟨rfl, hbel⟩
  · go_wp2
    go_ret
    exact ⟨rfl, hbel⟩
  · subst hlt
    go_wp2
    go_ret
    exact ⟨rfl, hbel⟩
end Go.Proofs.Qxb6623468a
