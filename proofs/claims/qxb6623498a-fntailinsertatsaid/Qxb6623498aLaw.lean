import Derived.Test.Qxb6623498aLeaf
namespace Go.Proofs.Qxb6623498a
open Go.RowKit
set_option linter.unusedVariables false

/-! ### the plain law -/
/-- The view with x put in at place p. -/
def ins (N : Nat → Node) (p : Nat) (x : Node) (j : Nat) : Node := if j < p then N j else if j = p then x else N (j - 1)
/-- Has one of the d nodes from place p on joined? -/
def jb (N : Nat → Node) (p : Nat) : Nat → Bool
  | 0 => false
  | d + 1 => jb N p d || (N (p + d)).joined
def mem (x : Node) : ByteArray × ByteArray × Int := (x.name, x.addr, x.since)

theorem ins_lt (N : Nat → Node) (p : Nat) (x : Node) (j : Nat) (h : j < p) : ins N p x j = N j := by rw [ins, if_pos h]
theorem ins_at (N : Nat → Node) (p : Nat) (x : Node) : ins N p x p = x := by simp [ins]
theorem ins_gt (N : Nat → Node) (p : Nat) (x : Node) (j : Nat) (h : p ≤ j) : ins N p x (j + 1) = N j := by
  rw [ins, if_neg (by omega), if_neg (by omega), Nat.add_sub_cancel]
theorem tl_same {f g : Nat → Node} : ∀ m, (∀ j, j < m → f j = g j) → tl f m = tl g m
  | 0, _ => rfl
  | m + 1, h => by rw [tl, tl, h m (by omega), tl_same m (fun j hj => h j (by omega))]
theorem tl_quiet (N : Nat → Node) (p : Nat) : ∀ d, jb N p d = false → tl N (p + d) = tl N p
  | 0, _ => rfl
  | d + 1, h => by
    rw [jb, Bool.or_eq_false_iff] at h
    show tl N (p + d + 1) = _
    rw [tl, h.2]
    exact tl_quiet N p d h.1
theorem tl_behind (N : Nat → Node) (p : Nat) (x : Node) : ∀ d, tl (ins N p x) (p + 1 + d) = if jb N p d then tl N (p + d) else tl (ins N p x) (p + 1)
  | 0 => rfl
  | d + 1 => by
    show tl (ins N p x) (p + 1 + d + 1) = _
    rw [tl, show p + 1 + d = p + d + 1 by omega, ins_gt N p x (p + d) (by omega), show p + d + 1 = p + 1 + d by omega, tl_behind N p x d, jb]
    show _ = if jb N p d || (N (p + d)).joined then tl N (p + d + 1) else _
    have e : tl N (p + d + 1) = if (N (p + d)).joined then ((N (p + d)).name, (N (p + d)).addr, (N (p + d)).since) else tl N (p + d) := rfl
    rw [e]
    cases (N (p + d)).joined <;> cases jb N p d <;> simp
theorem tl_at (N : Nat → Node) (p : Nat) (x : Node) : tl (ins N p x) (p + 1) = if x.joined then mem x else tl N p := by
  rw [tl, ins_at, tl_same (f := ins N p x) (g := N) p (fun j hj => ins_lt N p x j hj)]; rfl
/-- x has joined, and none behind it: its own member. -/
theorem law_own (N : Nat → Node) (n p : Nat) (x : Node) (hp : p ≤ n) (hx : x.joined = true) (hj : jb N p (n - p) = false) : tl (ins N p x) (n + 1) = mem x := by
  have := tl_behind N p x (n - p)
  rw [hj, show p + 1 + (n - p) = n + 1 by omega] at this
  rw [this, if_neg (by simp), tl_at, if_pos hx]
/-- Otherwise: the old tail. -/
theorem law_old (N : Nat → Node) (n p : Nat) (x : Node) (hp : p ≤ n) (h : x.joined = false ∨ jb N p (n - p) = true) : tl (ins N p x) (n + 1) = tl N n := by
  have := tl_behind N p x (n - p)
  rw [show p + 1 + (n - p) = n + 1 by omega, show p + (n - p) = n by omega] at this
  rw [this]
  cases hj : jb N p (n - p)
  · have hx : x.joined = false := by
      rcases h with h | h
      · exact h
      · rw [hj] at h; cases h
    rw [if_neg (by simp), tl_at, if_neg (by simp [hx])]
    have := tl_quiet N p (n - p) hj
    rw [show p + (n - p) = n by omega] at this
    exact this.symm
  · rw [if_pos rfl]

/-! ### what the walk carries of the world -/
/-- All old memory is as it was; the box of x holds x. -/
def Base (w wr : World) (x : Node) : Prop := Below w.heap.size w wr ∧ wr.rangeAt w.heap.size 0 (nc x)
theorem Base.lt {w wr : World} {x : Node} (h : Base w wr x) : w.heap.size < wr.heap.size := cell_lt (h.2 0 _ rfl)
theorem Base.below {w wr w' : World} {x : Node} (h : Base w wr x) (hb : Below wr.heap.size wr w') : Base w w' x :=
  ⟨h.1.trans (hb.mono h.1.size), rangeAt_below h.2 hb⟩
theorem Base.set {w wr : World} {x : Node} (h : Base w wr x) {B : Nat} (hB : w.heap.size < B) (o : Nat) (cs : List Value) : Base w (wr.setCells B o cs) x :=
  ⟨below_setCells (by omega) cs o wr h.1, World.rangeAt_setCells_apart h.2 _ _ _ (.inl (by omega))⟩
theorem Base.cells {w wr : World} {x : Node} (h : Base w wr x) :
    wr.cell? ⟨w.heap.size, 0, none⟩ = some (.string x.name) ∧ wr.cell? ⟨w.heap.size, 1, none⟩ = some (.string x.addr) ∧ wr.cell? ⟨w.heap.size, 2, none⟩ = some (.int .i64 x.since) ∧
    wr.cell? ⟨w.heap.size, 3, none⟩ = some (.string x.client) ∧ wr.cell? ⟨w.heap.size, 4, none⟩ = some (.bool x.joined) ∧ wr.cell? ⟨w.heap.size, 5, none⟩ = some (.int .i64 x.clen) := by
  have := node_cells h.2
  simpa using this
theorem grown_below {w w' : World} (hg : w.grownBy w' none) : Below w.heap.size w w' := (Below.refl _ _).grown hg (Nat.le_refl _) (fun k hk => by cases hk)

theorem info31 : (Try.prog.info? 31).map (fun i => (i.zero, i.size, i.bytes)) = some (some (.agg #[.string ⟨#[]⟩, .string ⟨#[]⟩, .int .i64 0, .string ⟨#[]⟩, .bool false, .int .i64 0]), 6, 72) := by kernel_rfl
/-- A row that make has laid. -/
theorem row_made {w : World} {base B n c : Nat} {e : TypeId} {xs : List Value} {f : Nat → Node} (h : w.ownsRow base e 6 (.slice (some ⟨B, 0, none⟩) n c) n xs) : Row w B 0 n f := by
  refine ⟨(h.lt B rfl).2, fun j hj => ⟨?_, h.frozenAt _⟩, fun j hj => absurd hj (Nat.not_lt_zero _)⟩
  rw [h.cellAt _ (by omega)]
  have := h.1
  rw [List.getElem?_eq_getElem (by omega)]
  rfl

/-- A node stored into a row, at the operation. -/
theorem wpList_lay {ops : Array Oper} {rest : List Oper} {op : Oper} {a : Act} {w : World} {Q : Exit → Act → World → Prop} {x y : Operand} {B i k m : Nat} {f : Nat → Node} {nd : Node}
    (hr : Row w B k m f) (hi : i < m) (hgd : op.guard = none) (ho : op.op = .store 31 x y)
    (hx : a.eval x = .pointer (some ⟨B, i * 6, none⟩)) (hy : a.eval y = .agg #[.string nd.name, .string nd.addr, .int .i64 nd.since, .string nd.client, .bool nd.joined, .int .i64 nd.clen])
    (hend : ∀ w1, Hid (w1 = w.setCells B (i * 6) (nc nd)) → wpList Try.prog ops Q rest (a.put op.dst undef) w1) : wpList Try.prog ops Q (op :: rest) a w :=
  wpList_store_mid hgd 31 x y ho B (i * 6) _ hx hy (hr.there hi) (by kernel_rfl) (all_oneCell_toArray (cs := nc nd) (by intro v hv; simp [nc] at hv; rcases hv with rfl | rfl | rfl | rfl | rfl | rfl <;> rfl)) (hend _ rfl)
/-- Tail, its answer known. -/
theorem tail_is {B m : Nat} {f : Nat → Node} {w : World} (h : Row w B m m f) (hm : m ≤ 65537) {s1 s2 : ByteArray} {i3 : Int} (ht : tl f m = (s1, s2, i3)) :
    Calls Try.prog 6 #[.slice (some ⟨B, 0, none⟩) m m] w fun e w' => e = .returned (.agg #[.string s1, .string s2, .int .i64 i3]) ∧ Below w.heap.size w w' := by
  have := tail_any B m m f w h hm
  rwa [ht] at this
/-- zzMember, field by field. -/
theorem member_raw (n1 n2 : ByteArray) (i : Int) (c : ByteArray) (b : Bool) (l : Int) (w : World) : Calls Try.prog 7 #[.agg #[.string n1, .string n2, .int .i64 i, .string c, .bool b, .int .i64 l]] w fun e w' =>
    e = .returned (.agg #[.string n1, .string n2, .int .i64 i]) ∧ Below w.heap.size w w' := member_any ⟨n1, n2, i, c, b, l⟩ w
end Go.Proofs.Qxb6623498a
