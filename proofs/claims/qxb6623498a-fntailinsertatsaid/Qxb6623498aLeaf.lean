import Derived.Test.Qxb6623498aRows
import Derived.WalkKit
import Derived.WalkSpells
import Derived.WalkLawsBesides
import Derived.Deep.QuietTactic
import Derived.BigQuiet
import Derived.Deep.MidRow
namespace Go.Proofs.Qxb6623498a
open Go.RowKit
set_option linter.unusedVariables false

/-- A node, field by field. -/
structure Node where
  name : ByteArray
  addr : ByteArray
  since : Int
  client : ByteArray
  joined : Bool
  clen : Int
/-- Its cells. -/
def nc (x : Node) : List Value := [.string x.name, .string x.addr, .int .i64 x.since, .string x.client, .bool x.joined, .int .i64 x.clen]

def SomeBool (e : Ending) : Prop := ∃ b, e = .returned (.bool b)
theorem SomeBool.mk (b : Bool) : SomeBool (.returned (.bool b)) := ⟨b, rfl⟩

set_option maxHeartbeats 1000000 in
/-- zzReg -/
theorem reg_any (x : Node) (w : World) : Calls Try.prog 5 #[.agg #[.string x.name, .string x.addr, .int .i64 x.since, .string x.client, .bool x.joined, .int .i64 x.clen]] w fun e w' =>
    e = .returned (.agg #[.string x.name, .string x.addr, .int .i64 x.since, .string x.client, .bool x.joined, .int .i64 x.clen]) ∧ Below w.heap.size w w' := by
  go_enter Try.func5, Try.ntmps5
  go_wp2
  exact bodyPost_ret (v := .agg #[.string x.name, .string x.addr, .int .i64 x.since, .string x.client, .bool x.joined, .int .i64 x.clen]) (by simp [results, Try.results5, go_sem]) rfl
    ⟨rfl, (((Below.refl _ _).alloc (Nat.le_refl _) _).alloc (by simp) _).alloc (by simp; omega) _⟩
set_option maxHeartbeats 1000000 in
/-- zzMember -/
theorem member_any (x : Node) (w : World) : Calls Try.prog 7 #[.agg #[.string x.name, .string x.addr, .int .i64 x.since, .string x.client, .bool x.joined, .int .i64 x.clen]] w fun e w' =>
    e = .returned (.agg #[.string x.name, .string x.addr, .int .i64 x.since]) ∧ Below w.heap.size w w' := by
  go_enter Try.func7, Try.ntmps7
  go_wp2
  exact bodyPost_ret (v := .agg #[.string x.name, .string x.addr, .int .i64 x.since]) (by simp [results, Try.results7, go_sem]) rfl
    ⟨rfl, (((Below.refl _ _).alloc (Nat.le_refl _) _).alloc (by simp) _).alloc (by simp; omega) _⟩

/-! ### rows of nodes -/
/-- A slice of nodes that came in. -/
def IsNodes (w : World) (a : Option Addr) (n : Nat) (N : Nat → Node) : Prop :=
  n = 0 ∨ ∃ b off, a = some ⟨b, off, none⟩ ∧ ∀ i, i < n → w.rangeAt b (off + i * 6) (nc (N i))
/-- Block B is a row of m nodes, the first k of them laid. -/
def Row (w : World) (B k m : Nat) (f : Nat → Node) : Prop := B < w.heap.size ∧ w.there B 0 (m * 6) ∧ ∀ j, j < k → w.rangeAt B (j * 6) (nc (f j))

theorem cell_lt {w : World} {a : Addr} {v : Value} (h : w.cell? a = some v) : a.block < w.heap.size := World.block_lt_of_cell? w a h
theorem nc_length (x : Node) : (nc x).length = 6 := rfl
theorem rangeAt_below {w w' : World} {b o : Nat} {cs : List Value} (h : w.rangeAt b o cs) (hb : Below w.heap.size w w') : w'.rangeAt b o cs := fun j v hv =>
  (hb.cell (cell_lt (h j v hv))).trans (h j v hv)
theorem there_below {w w' : World} {b o n : Nat} (h : w.there b o n) (hb : Below w.heap.size w w') : w'.there b o n := fun j hj => by
  obtain ⟨h1, h2⟩ := h j hj
  obtain ⟨u, hu⟩ := Option.isSome_iff_exists.1 h1
  exact ⟨by rw [hb.cell (cell_lt hu)]; exact h1, by rw [hb.frozen (cell_lt hu)]; exact h2⟩
theorem IsNodes.below {w w' : World} {a : Option Addr} {n : Nat} {N : Nat → Node} (h : IsNodes w a n N) (hb : Below w.heap.size w w') : IsNodes w' a n N := by
  rcases h with h | ⟨b, off, e, hc⟩
  · exact .inl h
  · exact .inr ⟨b, off, e, fun i hi => rangeAt_below (hc i hi) hb⟩
theorem size_setCells {b : Nat} : ∀ (vs : List Value) (o : Nat) (w : World), (w.setCells b o vs).heap.size = w.heap.size
  | [], _, _ => rfl
  | v :: r, o, w => by
    rw [World.setCells, size_setCells r (o + 1)]
    simp

theorem Row.below {w w' : World} {B k m : Nat} {f : Nat → Node} (h : Row w B k m f) (hb : Below w.heap.size w w') : Row w' B k m f :=
  ⟨Nat.lt_of_lt_of_le h.1 hb.size, there_below h.2.1 hb, fun j hj => rangeAt_below (h.2.2 j hj) hb⟩
theorem Row.there {w : World} {B k m : Nat} {f : Nat → Node} (h : Row w B k m f) {i : Nat} (hi : i < m) : w.there B (i * 6) 6 := fun j hj => by
  have := h.2.1 (i * 6 + j) (by omega)
  rwa [Nat.zero_add] at this
/-- The next node is laid. -/
theorem Row.lay {w : World} {B k m : Nat} {f : Nat → Node} (h : Row w B k m f) (hk : k < m) : Row (w.setCells B (k * 6) (nc (f k))) B (k + 1) m f := by
  refine ⟨by rw [size_setCells]; exact h.1, World.there_setCells h.2.1 _ _ _, fun j hj => ?_⟩
  rcases Nat.lt_succ_iff_lt_or_eq.1 hj with h' | rfl
  · exact World.rangeAt_setCells_apart (h.2.2 j h') _ _ _ (.inr (.inl (by rw [nc_length]; omega)))
  · exact World.rangeAt_setCells_same _ _ _ _ (h.there hk)
theorem Row.other {w : World} {B k m : Nat} {f : Nat → Node} (h : Row w B k m f) {B' : Nat} (hne : B ≠ B') (o : Nat) (cs : List Value) : Row (w.setCells B' o cs) B k m f :=
  ⟨by rw [size_setCells]; exact h.1, World.there_setCells h.2.1 _ _ _, fun j hj => World.rangeAt_setCells_apart (h.2.2 j hj) _ _ _ (.inl hne)⟩
theorem below_setCells {b : Nat} {B : Nat} {a : World} (hb : B ≤ b) : ∀ (vs : List Value) (o : Nat) (w : World), Below B a w → Below B a (w.setCells b o vs)
  | [], _, _, h => h
  | v :: r, o, w, h => by
    rw [World.setCells]
    exact below_setCells hb r (o + 1) _ (h.setCell hb v)
/-- What the cells of one node read. -/
theorem node_cells {w : World} {b o : Nat} {x : Node} (h : w.rangeAt b o (nc x)) :
    w.cell? ⟨b, o, none⟩ = some (.string x.name) ∧ w.cell? ⟨b, o + 1, none⟩ = some (.string x.addr) ∧ w.cell? ⟨b, o + 2, none⟩ = some (.int .i64 x.since) ∧
    w.cell? ⟨b, o + 3, none⟩ = some (.string x.client) ∧ w.cell? ⟨b, o + 4, none⟩ = some (.bool x.joined) ∧ w.cell? ⟨b, o + 5, none⟩ = some (.int .i64 x.clen) :=
  ⟨h 0 _ rfl, h 1 _ rfl, h 2 _ rfl, h 3 _ rfl, h 4 _ rfl, h 5 _ rfl⟩

/-! ### Tail -/
/-- The member of the last of the first m that has joined. -/
def tl (f : Nat → Node) : Nat → ByteArray × ByteArray × Int
  | 0 => (⟨#[]⟩, ⟨#[]⟩, 0)
  | m + 1 => if (f m).joined then ((f m).name, (f m).addr, (f m).since) else tl f m

theorem tl_hit {f : Nat → Node} {m k : Nat} (h : tl f m = tl f (k + 1)) (hj : (f k).joined = true) : tl f m = ((f k).name, (f k).addr, (f k).since) := by rw [h, tl, if_pos hj]
theorem tl_miss {f : Nat → Node} {m k : Nat} (h : tl f m = tl f (k + 1)) (hj : (f k).joined = false) : tl f m = tl f k := by rw [h, tl, hj]; rfl

set_option maxHeartbeats 1000000 in
theorem tail_any (B m c : Nat) (f : Nat → Node) (w : World) (h : Row w B m m f) (hm : m ≤ 65537) : Calls Try.prog 6 #[.slice (some ⟨B, 0, none⟩) m c] w fun e w' =>
    e = .returned (.agg #[.string (tl f m).1, .string (tl f m).2.1, .int .i64 (tl f m).2.2]) ∧ Below w.heap.size w w' := by
  go_enter Try.func6, Try.ntmps6
  go_wp2
  go_loop [3] (fun i => ∃ k : Nat, k ≤ m ∧ i = .int .i64 ((k : Int) - 1) ∧ tl f m = tl f k) (fun i => (intOf i + 1).toNat)
  case atStart => exact ⟨m, Nat.le_refl _, rfl, rfl⟩
  case round =>
    obtain ⟨k, hk, rfl, hf⟩ := hrel
    cases k with
    | zero =>
      have HF : Hid (tl f m = tl f 0) := hf
      clear hf
      go_wp2
      exact bodyPost_ret (v := .agg #[.string ⟨#[]⟩, .string ⟨#[]⟩, .int .i64 0]) (by simp [results, Try.results6, go_sem]) rfl ⟨by rw [HF.out]; rfl, (Below.refl _ _).alloc (Nat.le_refl _) _⟩
    | succ k =>
      have HF : Hid (tl f m = tl f (k + 1)) := hf
      clear hf
      rw [show (((k + 1 : Nat) : Int) - 1) = (k : Int) by omega]
      obtain ⟨c0, c1, c2, c3, c4, c5⟩ := node_cells (h.2.2 k (by omega))
      have hlt : B < w.heap.size := h.1
      cases hj : (f k).joined
      · have HJ : Hid ((f k).joined = false) := hj
        go_wp2
        go_round
        case rel => exact ⟨k, by omega, rfl, tl_miss HF.out HJ.out⟩
        case measure => simp [intOf]
      · have HJ : Hid ((f k).joined = true) := hj
        go_wp2
        exact bodyPost_ret (v := .agg #[.string (f k).name, .string (f k).addr, .int .i64 (f k).since]) (by simp [results, Try.results6, go_sem]) rfl ⟨by rw [tl_hit HF.out HJ.out], (Below.refl _ _).alloc (Nat.le_refl _) _⟩

set_option maxHeartbeats 2000000 in
/-- zzBytes -/
theorem bytes_any (a : Option Addr) (n c : Nat) (N : Nat → Node) (p : Int) (x : Node) (w : World) (h : IsNodes w a n N) (hn : n ≤ maxLen)
    (zN : ∀ i, i < n → (N i).name.size ≤ maxLen ∧ (N i).addr.size ≤ maxLen ∧ (N i).client.size ≤ maxLen) (zx : x.name.size ≤ maxLen ∧ x.addr.size ≤ maxLen ∧ x.client.size ≤ maxLen) :
    Calls Try.prog 4 #[.slice a n c, .int .i64 p, .agg #[.string x.name, .string x.addr, .int .i64 x.since, .string x.client, .bool x.joined, .int .i64 x.clen]] w fun e w' => SomeBool e ∧ Below w.heap.size w w' := by
  obtain ⟨zx0, zx1, zx2⟩ := zx
  unfold maxLen at *
  have hB := fun o => ((Below.refl w.heap.size w).alloc (Nat.le_refl _) o)
  have HB : Hid (∀ o, Below w.heap.size w (w.alloc o)) := hB
  clear hB
  go_enter Try.func4, Try.ntmps4
  go_wp2
  all_goals first | (go_ret; exact ⟨SomeBool.mk _, HB.out _⟩) | skip
  all_goals
    go_loop [7, 8] (fun t i => ∃ (z : Int) (k : Nat), k ≤ n ∧ t = .int .i64 z ∧ i = .int .i64 k) (fun _ i => n - (intOf i).toNat)
    case atStart => exact ⟨_, 0, Nat.zero_le _, rfl, rfl⟩
    case round =>
      obtain ⟨z, k, hk, rfl, rfl⟩ := hrel
      by_cases hlt : k < n
      · rcases h with rfl | ⟨b, off, rfl, hc⟩
        · omega
        · obtain ⟨k0, k1, k2, k3, k4, k5⟩ := node_cells (hc k hlt)
          have hbl : b < w.heap.size := cell_lt k0
          obtain ⟨z0, z1, z2⟩ := zN k hlt
          clear hc
          go_wp2
          all_goals first | (go_ret; exact ⟨SomeBool.mk _, HB.out _⟩) | skip
          go_round
          case rel => exact ⟨_, k + 1, by omega, rfl, by go_num⟩
          case measure => simp [intOf]; omega
      · go_wp2
        all_goals (go_ret; exact ⟨SomeBool.mk _, HB.out _⟩)
end Go.Proofs.Qxb6623498a
