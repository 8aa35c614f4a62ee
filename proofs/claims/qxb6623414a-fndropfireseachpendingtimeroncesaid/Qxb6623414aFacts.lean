import Derived.Test.Qxb6623414aBytes
import Derived.Test.Qxb6623414aTabs
namespace Go.Proofs.Qxb6623414a
open Go.RowKit Go.Maps

/-! ### the tables in plain words: strings -/
def hS (s : Nat → ByteArray) (n : Nat) (l : List UInt8) : Bool := anyB (fun j => (s j).toList == l) n
def vS (s : Nat → ByteArray) (p : Nat → Bool) (n : Nat) (l : List UInt8) : Bool := lastB (fun j => (s j).toList == l) p n
def dS (s : Nat → ByteArray) (n : Nat) : Nat := distB (fun j i => (s j).toList == (s i).toList) n
/-- .. and of integers -/
def hI (s : Nat → Int) (n : Nat) (l : Int) : Bool := anyB (fun j => s j == l) n
def vI (s : Nat → Int) (p : Nat → Bool) (n : Nat) (l : Int) : Bool := lastB (fun j => s j == l) p n
def dI (s : Nat → Int) (n : Nat) : Nat := distB (fun j i => s j == s i) n
/-- what the first table holds behind k drops -/
def vQ (s : Nat → ByteArray) (p : Nat → Bool) (n : Nat) (q : Nat → ByteArray) (k : Nat) (l : List UInt8) : Bool := vS s p n l && !hS q k l

/-- The first table as the walk carries it. -/
def TabS (w wc : World) (s : Nat → ByteArray) (p : Nat → Bool) (n : Nat) (q : Nat → ByteArray) (k : Nat) (r : Option Nat) : Prop :=
  HasTab litS wc r (n + k) 9 (hS s n) (vQ s p n q k) (dS s n) ∧ ∀ b, r = some b → w.heap.size ≤ b
/-- The second. -/
def TabI (w wc : World) (s : Nat → Int) (p : Nat → Bool) (n : Nat) (r : Option Nat) : Prop :=
  HasTab litI wc r n 2 (hI s n) (vI s p n) (dI s n) ∧ ∀ b, r = some b → w.heap.size ≤ b

theorem cell_lt {w : World} {a : Addr} {v : Value} (h : w.cell? a = some v) : a.block < w.heap.size := by
  unfold World.cell? at h
  cases hb : w.heap[a.block]? with
  | none => simp [hb] at h
  | some o => exact (Array.getElem?_eq_some_iff.1 hb).1

theorem IsStrs.below {w wc : World} {a : Option Addr} {n : Nat} {s : Nat → ByteArray} (h : IsStrs w a n s) (hb : Below w.heap.size w wc) : IsStrs wc a n s := by
  rcases h with h | ⟨b, off, rfl, hc⟩
  · exact .inl h
  · exact .inr ⟨b, off, rfl, fun i hi => (hb.cell (cell_lt (hc i hi))).trans (hc i hi)⟩
theorem IsTimers.below {w wc : World} {a : Option Addr} {n : Nat} {s : Nat → ByteArray} {p : Nat → Bool} (h : IsTimers w a n s p) (hb : Below w.heap.size w wc) : IsTimers wc a n s p := by
  rcases h with h | ⟨b, off, rfl, hc⟩
  · exact .inl h
  · exact .inr ⟨b, off, rfl, fun i hi => ⟨(hb.cell (cell_lt (hc i hi).1)).trans (hc i hi).1, (hb.cell (cell_lt (hc i hi).2)).trans (hc i hi).2⟩⟩
theorem IsStarts.below {w wc : World} {a : Option Addr} {n : Nat} {s : Nat → Int} {p : Nat → Bool} (h : IsStarts w a n s p) (hb : Below w.heap.size w wc) : IsStarts wc a n s p := by
  rcases h with h | ⟨b, off, rfl, hc⟩
  · exact .inl h
  · exact .inr ⟨b, off, rfl, fun i hi => ⟨(hb.cell (cell_lt (hc i hi).1)).trans (hc i hi).1, (hb.cell (cell_lt (hc i hi).2)).trans (hc i hi).2⟩⟩

/-! ### one round of the first table's filling -/
theorem fillS {w wc : World} {s : Nat → ByteArray} {p : Nat → Bool} {k b : Nat} (H : HasTab litS wc (some b) k 9 (hS s k) (vS s p k) (dS s k)) (hk : k < maxLen) (hz : (s k).size ≤ maxLen) (hb : Below w.heap.size w wc) (hB : w.heap.size ≤ b) :
    ∃ w1, (Instr.mapUpdate 28 (.map (some b)) (.string (s k)) (.bool (p k))).run Try.prog wc.drew = .ok () w1 ∧ Below w.heap.size w w1 ∧ HasTab litS w1 (some b) (k + 1) 9 (hS s (k + 1)) (vS s p (k + 1)) (dS s (k + 1)) := by
  have H' : HasTab litS wc.drew (some b) k 9 (hS s k) (vS s p k) (dS s k) := H
  obtain ⟨w1, hrun, hg, H1⟩ := H'.store litsS law9 Try.underlying28 hk (keyS hz) (p k)
  refine ⟨w1, hrun, hb.drew.grown hg hb.size (fun j hj => by cases hj; exact hB), H1.congr (fun l => ?_) (fun l => ?_) ?_⟩
  · unfold hS
    rw [anyB, Bool.or_comm]
    congr 1
    rw [Bool.eq_iff_iff]; simp; exact eq_comm
  · unfold vS
    rw [lastB]
    by_cases e : l = (s k).toList
    · subst e; simp
    · rw [if_neg e, if_neg (by simpa using fun q => e q.symm)]
  · unfold dS
    rw [distB]
    unfold hS
    split <;> simp_all

theorem fillI {w wc : World} {s : Nat → Int} {p : Nat → Bool} {k b : Nat} (H : HasTab litI wc (some b) k 2 (hI s k) (vI s p k) (dI s k)) (hk : k < maxLen) (hz : (Lit.int .i64 (s k)).wf = true) (hb : Below w.heap.size w wc) (hB : w.heap.size ≤ b) :
    ∃ w1, (Instr.mapUpdate 29 (.map (some b)) (.int .i64 (s k)) (.bool (p k))).run Try.prog wc.drew = .ok () w1 ∧ wc.grownBy w1 (some b) ∧ Below w.heap.size w w1 ∧ HasTab litI w1 (some b) (k + 1) 2 (hI s (k + 1)) (vI s p (k + 1)) (dI s (k + 1)) := by
  have H' : HasTab litI wc.drew (some b) k 2 (hI s k) (vI s p k) (dI s k) := H
  obtain ⟨w1, hrun, hg, H1⟩ := H'.store litsI law2 Try.underlying29 hk (keyI hz) (p k)
  refine ⟨w1, hrun, ⟨hg.os, hg.tape, hg.output, hg.size, hg.block⟩, hb.drew.grown hg hb.size (fun j hj => by cases hj; exact hB), H1.congr (fun l => ?_) (fun l => ?_) ?_⟩
  · unfold hI
    rw [anyB, Bool.or_comm]
    congr 1
    rw [Bool.eq_iff_iff]; simp; exact eq_comm
  · unfold vI
    rw [lastB]
    by_cases e : l = s k
    · subst e; simp
    · rw [if_neg e, if_neg (by simpa using fun q => e q.symm)]
  · unfold dI
    rw [distB]
    unfold hI
    split <;> simp_all

theorem vQ_zero (s : Nat → ByteArray) (p : Nat → Bool) (n : Nat) (q : Nat → ByteArray) : vQ s p n q 0 = vS s p n := by
  funext l; simp [vQ, hS, anyB]
theorem vQ_step (s : Nat → ByteArray) (p : Nat → Bool) (n : Nat) (q : Nat → ByteArray) (k : Nat) (l : List UInt8) : (if l = (q k).toList then false else vQ s p n q k l) = vQ s p n q (k + 1) l := by
  unfold vQ hS
  rw [anyB]
  by_cases e : l = (q k).toList
  · subst e; simp
  · rw [if_neg e]
    have : ((q k).toList == l) = false := by simpa using fun h => e h.symm
    simp [this]
theorem hS_self (s : Nat → ByteArray) (n k : Nat) (hk : k < n) : hS s n (s k).toList = true := anyB_true (p := fun j => (s j).toList == (s k).toList) (by simp) n hk
theorem hI_self (s : Nat → Int) (n k : Nat) (hk : k < n) : hI s n (s k) = true := anyB_true (p := fun j => s j == s k) (by simp) n hk
theorem dS_le (s : Nat → ByteArray) (n : Nat) : dS s n ≤ n := distB_le _ n
theorem dI_le (s : Nat → Int) (n : Nat) : dI s n ≤ n := distB_le _ n

theorem HasTab.lt {α : Type} {lit : α → Lit} {w : World} {b n : Nat} {K : TypeId} {h v : α → Bool} {sz : Nat} (H : HasTab lit w (some b) n K h v sz) : b < w.heap.size := by
  rcases H with ⟨e, _⟩ | ⟨b', D, e, o, _⟩
  · cases e
  · cases e; exact o.lt

theorem TabS.kept {w wc w1 : World} {s : Nat → ByteArray} {p : Nat → Bool} {n : Nat} {q : Nat → ByteArray} {k : Nat} {r row : Option Nat} (H : TabS w wc s p n q k r) (hg : wc.grownBy w1 row) (hne : r = none ∨ r ≠ row) : TabS w w1 s p n q k r :=
  ⟨H.1.kept hg hne, H.2⟩
theorem TabI.kept {w wc w1 : World} {s : Nat → Int} {p : Nat → Bool} {n : Nat} {r row : Option Nat} (H : TabI w wc s p n r) (hg : wc.grownBy w1 row) (hne : r = none ∨ r ≠ row) : TabI w w1 s p n r :=
  ⟨H.1.kept hg hne, H.2⟩
theorem TabS.ne_new {w wc : World} {s : Nat → ByteArray} {p : Nat → Bool} {n : Nat} {q : Nat → ByteArray} {k : Nat} {r : Option Nat} (H : TabS w wc s p n q k r) : r = none ∨ r ≠ some wc.heap.size := by
  cases r with
  | none => exact .inl rfl
  | some b => exact .inr (fun e => by cases e; exact absurd H.1.lt (Nat.lt_irrefl _))

theorem grown_drewN {w w1 : World} (d : Nat) : (h : w1 = w.drewN d) → w.grownBy w1 none := by
  rintro rfl
  exact ⟨rfl, rfl, rfl, Nat.le_refl _, fun _ _ _ => rfl⟩

/-- pendingAtStart, its answer known. -/
theorem pending_is {w wc : World} {a : Option Addr} {n : Nat} (c : Nat) {s : Nat → ByteArray} {p : Nat → Bool} (h : IsTimers w a n s p) (hb : Below w.heap.size w wc) (hn : n ≤ 4096) (q : ByteArray) {x : Bool} (hx : vS s p n q.toList = x) :
    Calls Try.prog 5 #[.slice a n c, .string q] wc fun e w' => e = .returned (.bool x) ∧ w' = wc := by
  subst hx
  exact pending_any a n c s p wc (h.below hb) hn q
/-- occursBefore, its answer known. -/
theorem occurs_is {w wc : World} {a : Option Addr} {n : Nat} (c : Nat) {s : Nat → ByteArray} (h : IsStrs w a n s) (hb : Below w.heap.size w wc) (hn : n ≤ maxLen) (m : Nat) (hm : m ≤ n) (q : ByteArray) {x : Bool} (hx : hS s m q.toList = x) :
    Calls Try.prog 6 #[.slice a n c, .int .i64 m, .string q] wc fun e w' => e = .returned (.bool x) ∧ w' = wc := by
  subst hx
  exact occurs_any a n c s wc (h.below hb) m hm hn q
/-- lastFires, its answer known. -/
theorem fires_is {w wc : World} {a : Option Addr} {n : Nat} (c : Nat) {s : Nat → Int} {p : Nat → Bool} (h : IsStarts w a n s p) (hb : Below w.heap.size w wc) (hn : n ≤ 4096) (q : Int) {x : Bool} (hx : vI s p n q = x) :
    Calls Try.prog 10 #[.slice a n c, .int .i64 q] wc fun e w' => e = .returned (.bool x) ∧ w' = wc := by
  subst hx
  exact lastFires_any a n c s p wc (h.below hb) hn q
/-- One drop of the script. -/
theorem drop_is {w wc : World} {s q : Nat → ByteArray} {p p1 : Nat → Bool} {s1 : Nat → Int} {n n1 k : Nat} {r r' : Option Nat} (hb : Below w.heap.size w wc) (H : TabS w wc s p n q k r) (H' : TabI w wc s1 p1 n1 r') (hne : r' = none ∨ r' ≠ r)
    (hn : n + k < maxLen) (hq : (q k).size ≤ maxLen) {x : Bool} (hx : vQ s p n q k (q k).toList = x) :
    Calls Try.prog 7 #[.map r', .map r, .string (q k)] wc fun e w' => e = .returned (.bool x) ∧ Below w.heap.size w w' ∧ TabS w w' s p n q (k + 1) r ∧ TabI w w' s1 p1 n1 r' := by
  subst hx
  refine (zzdrop_any r' r (n + k) (dS s n) (hS s n) (vQ s p n q k) (q k) wc H.1 hn hq).mono ?_
  rintro e w' ⟨rfl, hg, HT⟩
  refine ⟨rfl, hb.grown hg hb.size H.2, ⟨?_, H.2⟩, H'.kept hg hne⟩
  exact HT.congr (fun _ => rfl) (vQ_step s p n q k) rfl
/-- distinctIDs, in a world that bears the tables. -/
theorem distS_is {w wc : World} {a : Option Addr} {n : Nat} (c : Nat) {s : Nat → ByteArray} {p : Nat → Bool} (h : IsTimers w a n s p) (hb : Below w.heap.size w wc) (hn : n ≤ 4096) :
    Calls Try.prog 8 #[.slice a n c] wc fun e w' => e = .returned (.int .i64 (dS s n)) ∧ Below w.heap.size w w' ∧ wc.grownBy w' none := by
  refine (distinctIDs_any a n c s p wc (h.below hb) hn).mono ?_
  rintro e w' ⟨rfl, d, rfl⟩
  exact ⟨rfl, below_drewN hb d, grown_drewN d rfl⟩
theorem distI_is {w wc : World} {a : Option Addr} {n : Nat} (c : Nat) {s : Nat → Int} {p : Nat → Bool} (h : IsStarts w a n s p) (hb : Below w.heap.size w wc) (hn : n ≤ 4096) :
    Calls Try.prog 9 #[.slice a n c] wc fun e w' => e = .returned (.int .i64 (dI s n)) ∧ Below w.heap.size w w' ∧ wc.grownBy w' none := by
  refine (distinctEvents_any a n c s p wc (h.below hb) hn).mono ?_
  rintro e w' ⟨rfl, d, rfl⟩
  exact ⟨rfl, below_drewN hb d, grown_drewN d rfl⟩

section
variable {α : Type} {lit : α → Lit} {r : Option Nat} {n : Nat} {K : TypeId} {h v : α → Bool} {sz : Nat}
variable (w : World) {ops : Array Oper} {rest : List Oper} {o : Oper} {a : Act} {Q : Exit → Act → World → Prop}
/-- 'len(m)' at the operation. -/
theorem wpList_len_tab (hg : o.guard = none) (m : Operand) (t : TypeId) (hop : o.op = Op.call { callee := Callee.builtin Builtin.len, args := #[m], argTypes := #[t] })
    (H : HasTab lit w r n K h v sz) (ht : Try.prog.underlying t = some (.map K 4)) (hm : a.eval m = .map r)
    (hK : wpList Try.prog ops Q rest (a.put o.dst (.int .i64 sz)) w) : wpList Try.prog ops Q (o :: rest) a w := by
  refine wpList_plain hg fun K' hK' => ?_
  unfold Oper.wp
  simp [execOp, hop, resolve, invoke, builtin, hm, H.len ht o.type, Result.andThen]
  exact hK' _ _ hK
/-- 'v, ok := m[k]' at the operation. -/
theorem wpList_look_tab (hg : o.guard = none) (m x : Operand) (t : TypeId) (hop : o.op = Op.lookup t m x true)
    (H : HasTab lit w r n K h v sz) (law : Keyed Try.prog K) (ht : Try.prog.underlying t = some (.map K 4)) (hm : a.eval m = .map r) (key : Value) (k : α) (hx : a.eval x = key) (hkey : keyOf Try.prog K key = some (lit k))
    {y z : Bool} (hy : v k = y) (hz : h k = z) (hK : wpList Try.prog ops Q rest (a.put o.dst (.tuple #[.bool y, .bool z])) w) : wpList Try.prog ops Q (o :: rest) a w := by
  subst hy hz
  refine wpList_plain hg fun K' hK' => ?_
  have hrun := H.look law ht hkey true
  simp only [if_true] at hrun
  unfold Oper.wp
  simp [execOp, hop, hm, hx, hrun, Result.andThen]
  exact hK' _ _ hK
end
end Go.Proofs.Qxb6623414a
