import Derived.Test.Qxb6623498aMain
import Derived.ProofKit
import Derived.OpenShut
import Derived.ShutString
import Derived.ChangeOld
import Derived.Below
import Derived.Deep.Slices
import Derived.Lib.SmallJoins
namespace Go.Proofs.Qxb6623498a.fnTailInsertAt
open Go.ChangeShapes Go.WideShapes Go.ChangeAt Go.RowKit
set_option linter.unusedVariables false

theorem own : ownKnob Try.prog.godebug = none := by kernel_rfl
theorem laidOut : laidOutB Try.prog = true := by kernel_rfl
theorem cells24 : Try.prog.cellsOf 24 = 6 := by kernel_rfl
theorem cells9 : Try.prog.cellsOf 9 = 1 := by kernel_rfl
theorem cells2 : Try.prog.cellsOf 2 = 1 := by kernel_rfl
theorem cells3 : Try.prog.cellsOf 3 = 1 := by kernel_rfl
theorem cells4 : Try.prog.cellsOf 4 = 1 := by kernel_rfl

/-- The sizes of a node's strings. -/
def Fits (x : Node) : Prop := x.name.size ≤ maxLen ∧ x.addr.size ≤ maxLen ∧ x.client.size ≤ maxLen

section
variable {H : Type} {enc : TypeId × Value → H} {W : World} {fuel : Nat} {x : DataW H × List MemPlace} {base : Nat} {sp : Nat → Bool} {held : Bool}

theorem node_of {cs : List Value} (hf : DataW.trod enc Try.prog W base sp held fuel 24 cs = some x) : ∃ nd : Node, cs = nc nd ∧ Fits nd := by
  obtain ⟨xs, n, _, _, hl, hxl, hfs⟩ := DataW.trod_struct Try.underlying24 hf
  rw [cells24] at hl
  have hx6 : xs.length = 6 := hxl
  match cs, hl with
  | [c0, c1, c2, c3, c4, c5], _ =>
    have g0 : DataW.trod enc Try.prog W base sp held n 9 [c0] = xs[0]? := by simpa [cells9] using hfs 0 _ rfl
    have g1 : DataW.trod enc Try.prog W base sp held n 9 [c1] = xs[1]? := by simpa [cells9] using hfs 1 _ rfl
    have g2 : DataW.trod enc Try.prog W base sp held n 2 [c2] = xs[2]? := by simpa [cells2] using hfs 2 _ rfl
    have g3 : DataW.trod enc Try.prog W base sp held n 9 [c3] = xs[3]? := by simpa [cells9] using hfs 3 _ rfl
    have g4 : DataW.trod enc Try.prog W base sp held n 4 [c4] = xs[4]? := by simpa [cells4] using hfs 4 _ rfl
    have g5 : DataW.trod enc Try.prog W base sp held n 3 [c5] = xs[5]? := by simpa [cells3] using hfs 5 _ rfl
    rw [List.getElem?_eq_getElem (by omega)] at g0 g1 g2 g3 g4 g5
    obtain ⟨s0, e0, _, z0⟩ := DataW.trod_string Try.underlying9 g0
    obtain ⟨s1, e1, _, z1⟩ := DataW.trod_string Try.underlying9 g1
    obtain ⟨s2, e2, _, _⟩ := DataW.trod_int Try.underlying2 g2
    obtain ⟨s3, e3, _, z3⟩ := DataW.trod_string Try.underlying9 g3
    obtain ⟨s4, e4, _⟩ := DataW.trod_bool Try.underlying4 g4
    obtain ⟨s5, e5, _, _⟩ := DataW.trod_int Try.underlying3 g5
    simp at e0 e1 e2 e3 e4 e5
    subst e0 e1 e2 e3 e4 e5
    exact ⟨⟨s0, s1, s2, s3, s4, s5⟩, rfl, z0, z1, z3⟩

theorem plain_of {a : Addr} {v : Value} (h : W.cell? (a.add 0) = some v) : ∃ b off, a = ⟨b, off, none⟩ := by
  obtain ⟨b, off, spot⟩ := a
  have hspot : spot = none := by simpa [Addr.add] using World.cell?_spot h
  subst hspot
  exact ⟨b, off, rfl⟩

theorem open_nodes {a : Option Addr} {n c : Nat} (hf : DataW.trod enc Try.prog W 0 (fun _ => true) true fuel 22 [.slice a n c] = some x) :
    ∃ N, IsNodes W a n N ∧ n ≤ maxLen ∧ ∀ i, i < n → Fits (N i) := by
  rcases Deep.open_slice Try.underlying22 hf with ⟨hcs, _⟩ | ⟨a', len', cap', m, k, D, Pl, hcs, _, hl, hm, hmm, _, hcell⟩
  · simp at hcs
    obtain ⟨rfl, rfl, rfl⟩ := hcs
    exact ⟨fun _ => ⟨⟨#[]⟩, ⟨#[]⟩, 0, ⟨#[]⟩, false, 0⟩, .inl rfl, Nat.zero_le _, fun i hi => absurd hi (Nat.not_lt_zero _)⟩
  · simp at hcs
    obtain ⟨rfl, rfl, rfl⟩ := hcs
    simp at hmm
    subst hmm
    have each : ∀ i, i < n → ∃ nd : Node, Fits nd ∧ ∀ j v, (nc nd)[j]? = some v → W.cell? (a'.add (i * 6 + j)) = some v := by
      intro i hi
      obtain ⟨cs', h1, h2⟩ := hcell i (by omega)
      obtain ⟨nd, rfl, hfit⟩ := node_of h2
      rw [cells24] at h1
      obtain ⟨_, hlen, hc⟩ := World.cells?_some h1
      refine ⟨nd, hfit, fun j v hv => ?_⟩
      have hj : j < 6 := by have := (List.getElem?_eq_some_iff.1 hv).1; rwa [nc_length] at this
      have := hc j hj
      rw [Deep.add_add, hv] at this
      exact this
    by_cases h0 : n = 0
    · exact ⟨fun _ => ⟨⟨#[]⟩, ⟨#[]⟩, 0, ⟨#[]⟩, false, 0⟩, .inl h0, by omega, fun i hi => absurd hi (by omega)⟩
    · obtain ⟨nd0, _, hc0⟩ := each 0 (by omega)
      obtain ⟨b, off, rfl⟩ := plain_of (a := a') (hc0 0 _ rfl)
      have : Inhabited Node := ⟨nd0⟩
      obtain ⟨N, hN⟩ := Deep.choose_lt each
      refine ⟨N, .inr ⟨b, off, rfl, fun i hi j v hv => ?_⟩, by omega, fun i hi => (hN i hi).1⟩
      have := (hN i hi).2 j v hv
      rwa [add_plain, ← Nat.add_assoc] at this

theorem open_node {r : Reach} {b0 : Nat} {v : Value} {d : DataW H} {p : List MemPlace} (hv : Value.okWide Try.prog W r b0 24 v) (h : DataW.Trod enc Try.prog W base sp held 24 v d p) :
    ∃ x : Node, v = .agg #[.string x.name, .string x.addr, .int .i64 x.since, .string x.client, .bool x.joined, .int .i64 x.clen] ∧ Fits x := by
  obtain ⟨cs, rfl, _⟩ := okWide_struct Try.underlying24 hv
  obtain ⟨fuel, hf⟩ := h
  obtain ⟨nd, e, hfit⟩ := node_of hf
  refine ⟨nd, ?_, hfit⟩
  have e' : cs.toList = nc nd := by simpa [Value.cells] using e
  have : cs = (nc nd).toArray := by rw [← e']
  rw [this]
  rfl
end

set_option maxRecDepth 100000 in
theorem lifted (os : Os) (started : os.Started) (H : Type) (enc : TypeId × Value → H) :
    ReturnsInHanded {} Try.checked os 3 .any (Rows.fnTailInsertAtSpec.pre6 enc Try.prog Try.f3 Rows.fnTailInsertAtRow.domain false) (Rows.fnTailInsertAtSpec.post enc Try.prog Try.f3 false true false false) := by
  refine returnsInHanded_of_change (C := Try.checked) own started (by kernel_rfl) Try.func3
    (ChangeSpec.witness6 (enc := enc) (C := Try.checked) false ⟨#[], #[.slice none 0 0, .int .i64 0, .agg #[.string ⟨#[]⟩, .string ⟨#[]⟩, .int .i64 0, .string ⟨#[]⟩, .bool false, .int .i64 0]], []⟩ 8 (by kernel_rfl) (by kernel_rfl) (by kernel_rfl) (by kernel_rfl)) ?_
  intro W base args ds gs before hval0 hW hcnd _
  have hval : ∀ (j : Nat) t v, Try.f3.params[j]? = some t → args[j]? = some v → Value.okWide Try.prog W .any base t v := hval0
  have hW' := hW
  obtain ⟨p, q, hA0, hV, rfl, hfz, hnd⟩ := hW
  have hA : DataW.TrodAll enc Try.prog W 0 (fun _ => true) true Try.f3.params.toList args.toList ds p := hA0
  rw [Try.params3] at hA hval
  obtain ⟨v0, vs0, d0, ds0, p0, q0, hargs, rfl, rfl, h0, r0⟩ := trodAll_cons hA
  obtain ⟨v1, vs1, d1, ds1, p1, q1, rfl, rfl, rfl, h1, r1⟩ := trodAll_cons r0
  obtain ⟨v2, vs2, d2, ds2, p2, q2, rfl, rfl, rfl, h2, r2⟩ := trodAll_cons r1
  obtain ⟨rfl, rfl, rfl⟩ := trodAll_nil r2
  obtain rfl : args = #[v0, v1, v2] := by cases args; simp_all
  obtain ⟨rfl, rfl⟩ := trodVars_none hV
  obtain ⟨a0, len0, cap0, rfl⟩ := okWide_slice Try.underlying22 (hval 0 22 v0 rfl rfl)
  have lt0 : ∀ x ∈ p0, x.block < W.heap.size := by obtain ⟨m, hm⟩ := h0; exact DataW.trod_lt m _ _ _ hm
  have lt2 : ∀ x ∈ p2, x.block < W.heap.size := by obtain ⟨m, hm⟩ := h2; exact DataW.trod_lt m _ _ _ hm
  obtain ⟨a1, rfl, rfl, rfl, w1⟩ := open_int Try.underlying3 (hval 1 3 v1 rfl rfl) h1
  obtain ⟨x, rfl, fx⟩ := open_node (hval 2 24 v2 rfl rfl) h2
  obtain ⟨N, t0, l0, z0⟩ : ∃ N, IsNodes W a0 len0 N ∧ len0 ≤ maxLen ∧ ∀ i, i < len0 → Fits (N i) := by
    obtain ⟨fuel, hf⟩ := h0; exact open_nodes hf
  clear hA0 hval0
  refine (main_any a0 len0 cap0 N a1 x W t0 l0 z0 fx).mono fun e W' ⟨he, bel⟩ => ?_
  subst he
  exact ⟨_, rfl, _, _, _, [], _, [], hW', trodAll_mk1 (shut_bool Try.underlying4 _),
    (trodAll_cons_mk (Below.trod laidOut (by kernel_rfl) (of_decide_eq_true (by kernel_rfl)) h0 bel lt0) (trodAll_cons_mk (shut_int Try.underlying3 w1)
      (trodAll_cons_mk (Below.trod laidOut (by kernel_rfl) (of_decide_eq_true (by kernel_rfl)) h2 bel lt2) trodAll_mk0))), rfl, bel.frame _, fun h => by cases h⟩

theorem over : Rows.fnTailInsertAtRow.holds Try.pinned (OpenSpec.ofChange Rows.fnTailInsertAtSpec) :=
  OpenClaim.holds_of_wide 3 Try.f3 rfl rfl rfl rfl rfl rfl rfl ⟨rfl, rfl, rfl, rfl, rfl⟩ rfl rfl rfl rfl rfl (by kernel_rfl) Try.func3 (by kernel_rfl)
    (of_decide_eq_true (by kernel_rfl)) (by unfold Func.isWrapper; first | (rw [if_pos (by decide +kernel)]; kernel_rfl) | (rw [if_neg (by decide +kernel)]; exact ⟨rfl, rfl⟩))
    (fun os started H enc _ => lifted os started H enc)
end Go.Proofs.Qxb6623498a.fnTailInsertAt
namespace Go.Proofs.Qxb6623498a
/-- THE STATEMENT -/
theorem fnTailInsertAt_proved : Rows.FnTailInsertAtSaid := fnTailInsertAt.over
#print axioms fnTailInsertAt_proved
end Go.Proofs.Qxb6623498a
