import Derived.Test.Qxb6623414aMain
import Derived.ProofKit
import Derived.OpenShut
import Derived.ShutString
import Derived.ChangeOld
import Derived.Below
import Derived.SliceStrings
import Derived.Deep.SlicePairs
namespace Go.Proofs.Qxb6623414a.fnDropFiresEachPendingTimerOnce
open Go.ChangeShapes Go.WideShapes Go.ChangeAt Go.RowKit
set_option linter.unusedVariables false

theorem own : ownKnob Try.prog.godebug = none := by kernel_rfl
theorem laidOut : laidOutB Try.prog = true := by kernel_rfl
theorem cells27 : Try.prog.cellsOf 27 = 2 := by kernel_rfl
theorem cells31 : Try.prog.cellsOf 31 = 2 := by kernel_rfl
theorem cells9 : Try.prog.cellsOf 9 = 1 := by kernel_rfl
theorem cells4 : Try.prog.cellsOf 4 = 1 := by kernel_rfl
theorem cells2 : Try.prog.cellsOf 2 = 1 := by kernel_rfl

section
variable {H : Type} {enc : TypeId × Value → H} {W : World} {fuel : Nat} {a : Option Addr} {n c : Nat} {x : DataW H × List MemPlace}

theorem plain_of {a : Addr} {v : Value} (h : W.cell? (a.add 0) = some v) : ∃ b off, a = ⟨b, off, none⟩ := by
  obtain ⟨b, off, spot⟩ := a
  have hspot : spot = none := by simpa [Addr.add] using World.cell?_spot h
  subst hspot
  exact ⟨b, off, rfl⟩

theorem open_timers (hf : DataW.trod enc Try.prog W 0 (fun _ => true) true fuel 22 [.slice a n c] = some x) :
    ∃ s p, IsTimers W a n s p ∧ n ≤ maxLen ∧ ∀ i, i < n → (s i).size ≤ maxLen := by
  rcases Deep.open_slice_pairs Try.underlying22 Try.underlying27 cells27 rfl rfl cells9 cells4 hf with ⟨hcs, _⟩ | ⟨a', len', cap', m, k, V0, V1, D0, D1, P0, P1, hcs, _, hl, hm, hmm, _, hcell⟩
  · simp at hcs
    obtain ⟨rfl, rfl, rfl⟩ := hcs
    exact ⟨fun _ => ByteArray.empty, fun _ => false, .inl rfl, Nat.zero_le _, fun i hi => absurd hi (Nat.not_lt_zero _)⟩
  · simp at hcs
    obtain ⟨rfl, rfl, rfl⟩ := hcs
    simp at hmm
    subst hmm
    obtain ⟨s, hs⟩ := Deep.choose_lt (α := ByteArray) (n := n) (p := fun i s => V0 i = .string s ∧ s.size ≤ maxLen) (fun i hi => by
      obtain ⟨s, e, _, hz⟩ := DataW.trod_string Try.underlying9 (hcell i (by omega)).2.2.1
      exact ⟨s, by simpa using e, hz⟩)
    obtain ⟨p, hp⟩ := Deep.choose_lt (α := Bool) (n := n) (p := fun i b => V1 i = .bool b) (fun i hi => by
      obtain ⟨s, e, _⟩ := DataW.trod_bool Try.underlying4 (hcell i (by omega)).2.2.2
      exact ⟨s, by simpa using e⟩)
    refine ⟨s, p, ?_, by omega, fun i hi => (hs i hi).2⟩
    by_cases h0 : n = 0
    · exact .inl h0
    · obtain ⟨b, off, rfl⟩ := plain_of (hcell 0 (by omega)).1
      refine .inr ⟨b, off, rfl, fun i hi => ?_⟩
      have h1 := (hcell i (by omega)).1
      have h2 := (hcell i (by omega)).2.1
      rw [add_plain] at h1 h2
      rw [(hs i hi).1] at h1
      rw [hp i hi] at h2
      exact ⟨h1, h2⟩

theorem open_starts (hf : DataW.trod enc Try.prog W 0 (fun _ => true) true fuel 23 [.slice a n c] = some x) :
    ∃ s p, IsStarts W a n s p ∧ n ≤ maxLen ∧ ∀ i, i < n → (Lit.int .i64 (s i)).wf = true := by
  rcases Deep.open_slice_pairs Try.underlying23 Try.underlying31 cells31 rfl rfl cells2 cells4 hf with ⟨hcs, _⟩ | ⟨a', len', cap', m, k, V0, V1, D0, D1, P0, P1, hcs, _, hl, hm, hmm, _, hcell⟩
  · simp at hcs
    obtain ⟨rfl, rfl, rfl⟩ := hcs
    exact ⟨fun _ => 0, fun _ => false, .inl rfl, Nat.zero_le _, fun i hi => absurd hi (Nat.not_lt_zero _)⟩
  · simp at hcs
    obtain ⟨rfl, rfl, rfl⟩ := hcs
    simp at hmm
    subst hmm
    obtain ⟨s, hs⟩ := Deep.choose_lt (α := Int) (n := n) (p := fun i s => V0 i = .int .i64 s ∧ (Lit.int .i64 s).wf = true) (fun i hi => by
      obtain ⟨s, e, _, hz⟩ := DataW.trod_int Try.underlying2 (hcell i (by omega)).2.2.1
      exact ⟨s, by simpa using e, hz⟩)
    obtain ⟨p, hp⟩ := Deep.choose_lt (α := Bool) (n := n) (p := fun i b => V1 i = .bool b) (fun i hi => by
      obtain ⟨s, e, _⟩ := DataW.trod_bool Try.underlying4 (hcell i (by omega)).2.2.2
      exact ⟨s, by simpa using e⟩)
    refine ⟨s, p, ?_, by omega, fun i hi => (hs i hi).2⟩
    by_cases h0 : n = 0
    · exact .inl h0
    · obtain ⟨b, off, rfl⟩ := plain_of (hcell 0 (by omega)).1
      refine .inr ⟨b, off, rfl, fun i hi => ?_⟩
      have h1 := (hcell i (by omega)).1
      have h2 := (hcell i (by omega)).2.1
      rw [add_plain] at h1 h2
      rw [(hs i hi).1] at h1
      rw [hp i hi] at h2
      exact ⟨h1, h2⟩

theorem open_queries (hf : DataW.trod enc Try.prog W 0 (fun _ => true) true fuel 24 [.slice a n c] = some x) :
    ∃ s, IsStrs W a n s ∧ n ≤ maxLen ∧ ∀ i, i < n → (s i).size ≤ maxLen := by
  rcases open_strings Try.underlying24 Try.underlying9 cells9 hf with ⟨hcs, _⟩ | ⟨a', len', cap', ss, hcs, _, hl, hm, hmm, _, hcell, hz⟩
  · simp at hcs
    obtain ⟨rfl, rfl, rfl⟩ := hcs
    exact ⟨fun _ => ByteArray.empty, .inl rfl, Nat.zero_le _, fun i hi => absurd hi (Nat.not_lt_zero _)⟩
  · simp at hcs
    obtain ⟨rfl, rfl, rfl⟩ := hcs
    simp at hmm
    refine ⟨fun i => ss.getD i ByteArray.empty, ?_, by omega, fun i hi => hz _ ?_⟩
    · by_cases h0 : n = 0
      · exact .inl h0
      · obtain ⟨b, off, rfl⟩ := plain_of (hcell 0 (by omega))
        refine .inr ⟨b, off, rfl, fun i hi => ?_⟩
        have h1 := hcell i (by omega)
        rwa [add_plain] at h1
    · show ss.getD i ByteArray.empty ∈ ss
      rw [List.getD_eq_getElem?_getD, List.getElem?_eq_getElem (by omega)]
      exact List.getElem_mem _
end

set_option maxRecDepth 100000 in
theorem lifted (os : Os) (started : os.Started) (H : Type) (enc : TypeId × Value → H) :
    ReturnsInHanded {} Try.checked os 3 .any (Rows.fnDropFiresEachPendingTimerOnceSpec.pre6 enc Try.prog Try.f3 Rows.fnDropFiresEachPendingTimerOnceRow.domain false) (Rows.fnDropFiresEachPendingTimerOnceSpec.post enc Try.prog Try.f3 false true false false) := by
  refine returnsInHanded_of_change (C := Try.checked) own started (by kernel_rfl) Try.func3
    (ChangeSpec.witness6 (enc := enc) (C := Try.checked) false ⟨#[], #[.slice none 0 0, .slice none 0 0, .slice none 0 0], []⟩ 8 (by kernel_rfl) (by kernel_rfl) (by kernel_rfl) (by kernel_rfl)) ?_
  intro W base args ds gs before hval0 hW hcnd _
  have hval : ∀ (j : Nat) t v, Try.f3.params[j]? = some t → args[j]? = some v → Value.okWide Try.prog W .any base t v := hval0
  have hW' := hW
  obtain ⟨p, q, hA0, hV, rfl, hfz, hnd⟩ := hW
  have hA : DataW.TrodAll enc Try.prog W 0 (fun _ => true) true Try.f3.params.toList args.toList ds p := hA0
  rw [Try.params3] at hA hval
  obtain ⟨v0, vs0, d0, ds0, p0, q0, hargs, rfl, rfl, h0, r0⟩ := trodAll_cons hA
  obtain ⟨v1, vs1, d1, ds1, p1, q1, rfl, rfl, rfl, h1, r1⟩ := trodAll_cons r0
  obtain ⟨v2, vs2, d2, ds2, p2, q2, rfl, rfl, rfl, h2, r2⟩ := trodAll_cons r1
  obtain ⟨rfl, rfl, rfl⟩ := trodAll_nil r2
  obtain rfl : args = #[v0, v1, v2] := by cases args; simp_all
  obtain ⟨rfl, rfl⟩ := trodVars_none hV
  obtain ⟨a0, len0, cap0, rfl⟩ := okWide_slice Try.underlying22 (hval 0 22 v0 rfl rfl)
  obtain ⟨a1, len1, cap1, rfl⟩ := okWide_slice Try.underlying23 (hval 1 23 v1 rfl rfl)
  obtain ⟨a2, len2, cap2, rfl⟩ := okWide_slice Try.underlying24 (hval 2 24 v2 rfl rfl)
  have lt0 : ∀ x ∈ p0, x.block < W.heap.size := by obtain ⟨m, hm⟩ := h0; exact DataW.trod_lt m _ _ _ hm
  have lt1 : ∀ x ∈ p1, x.block < W.heap.size := by obtain ⟨m, hm⟩ := h1; exact DataW.trod_lt m _ _ _ hm
  have lt2 : ∀ x ∈ p2, x.block < W.heap.size := by obtain ⟨m, hm⟩ := h2; exact DataW.trod_lt m _ _ _ hm
  obtain ⟨s0, m0, t0, l0, z0⟩ : ∃ s p, IsTimers W a0 len0 s p ∧ len0 ≤ maxLen ∧ ∀ i, i < len0 → (s i).size ≤ maxLen := by
    obtain ⟨fuel, hf⟩ := h0; exact open_timers hf
  obtain ⟨s1, m1, t1, l1, z1⟩ : ∃ s p, IsStarts W a1 len1 s p ∧ len1 ≤ maxLen ∧ ∀ i, i < len1 → (Lit.int .i64 (s i)).wf = true := by
    obtain ⟨fuel, hf⟩ := h1; exact open_starts hf
  obtain ⟨s2, t2, l2, z2⟩ : ∃ s, IsStrs W a2 len2 s ∧ len2 ≤ maxLen ∧ ∀ i, i < len2 → (s i).size ≤ maxLen := by
    obtain ⟨fuel, hf⟩ := h2; exact open_queries hf
  clear hA0 hval0
  refine (main_any a0 a1 a2 len0 len1 len2 cap0 cap1 cap2 s0 s2 s1 m0 m1 W t0 t1 t2 l0 l1 l2 z0 z2 z1).mono fun e W' ⟨he, bel⟩ => ?_
  subst he
  exact ⟨_, rfl, _, _, _, [], _, [], hW', trodAll_mk1 (shut_bool Try.underlying4 _),
    (trodAll_cons_mk (Below.trod laidOut (by kernel_rfl) (of_decide_eq_true (by kernel_rfl)) h0 bel lt0) (trodAll_cons_mk (Below.trod laidOut (by kernel_rfl) (of_decide_eq_true (by kernel_rfl)) h1 bel lt1)
      (trodAll_cons_mk (Below.trod laidOut (by kernel_rfl) (of_decide_eq_true (by kernel_rfl)) h2 bel lt2) trodAll_mk0))), rfl, bel.frame _, fun h => by cases h⟩

theorem over : Rows.fnDropFiresEachPendingTimerOnceRow.holds Try.pinned (OpenSpec.ofChange Rows.fnDropFiresEachPendingTimerOnceSpec) :=
  OpenClaim.holds_of_wide 3 Try.f3 rfl rfl rfl rfl rfl rfl rfl ⟨rfl, rfl, rfl, rfl, rfl⟩ rfl rfl rfl rfl rfl (by kernel_rfl) Try.func3 (by kernel_rfl)
    (of_decide_eq_true (by kernel_rfl)) (by unfold Func.isWrapper; first | (rw [if_pos (by decide +kernel)]; kernel_rfl) | (rw [if_neg (by decide +kernel)]; exact ⟨rfl, rfl⟩))
    (fun os started H enc _ => lifted os started H enc)

end Go.Proofs.Qxb6623414a.fnDropFiresEachPendingTimerOnce
namespace Go.Proofs.Qxb6623414a
/-- THE STATEMENT -/
theorem fnDropFiresEachPendingTimerOnce_proved : Rows.FnDropFiresEachPendingTimerOnceSaid := fnDropFiresEachPendingTimerOnce.over
#print axioms fnDropFiresEachPendingTimerOnce_proved
end Go.Proofs.Qxb6623414a
