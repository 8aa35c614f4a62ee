import Derived.Test.Qxb6623414aScan
import Derived.Maps.OwnSet
namespace Go.Proofs.Qxb6623414a
open Go.RowKit Go.Maps

theorem law9 : Keyed Try.prog 9 := string_keyed Try.underlying9
theorem law2 : Keyed Try.prog 2 := int_keyed Try.underlying2
theorem zero4 (w : World) : (zeroValue 4).run Try.prog w = .ok (.bool false) w := by kernel_rfl

/-- A way to write keys of type α as literals: no two alike, each a key. -/
structure KeyLits (α : Type) (lit : α → Lit) : Prop where
  inj : ∀ a b, lit a = lit b → a = b
  key : ∀ a, WideAt.IsKeyLit (lit a)
def litS (l : List UInt8) : Lit := .string l
def litI (i : Int) : Lit := .int .i64 i
theorem litsS : KeyLits (List UInt8) litS := ⟨fun _ _ h => by simpa [litS] using h, fun _ => trivial⟩
theorem litsI : KeyLits Int litI := ⟨fun _ _ h => by simpa [litI] using h, fun _ => trivial⟩

/-- WHAT THE WALK KNOWS OF A MAP (nil, or of the call's own making): which keys are there, what stands at each, how many there are. -/
def HasTab {α : Type} (lit : α → Lit) (w : World) (r : Option Nat) (n : Nat) (K : TypeId) (h v : α → Bool) (sz : Nat) : Prop :=
  (r = none ∧ (∀ k, h k = false) ∧ (∀ k, v k = false) ∧ sz = 0) ∨
  ∃ b D, r = some b ∧ w.ownsMap Try.prog K (plainElem (H := Unit) Try.prog 4) b n D ∧ (∀ k, Maps.has D (lit k) = h k) ∧ (∀ k, D.atKey (lit k) (.lit (.bool false)) = .lit (.bool (v k))) ∧ Maps.size D = sz

theorem plainElem_bool_inv {H : Type} {P : Program} {e : TypeId} (he : P.underlying e = some .bool) {v : Value} {z : DataW H × List MemPlace} (h : plainElem P e v = some z) : ∃ x, v = .bool x ∧ z = (.lit (.bool x), []) := by
  unfold plainElem at h
  rw [he] at h
  cases v <;> simp at h
  subst h
  exact ⟨_, rfl, rfl⟩

section
variable {α : Type} {lit : α → Lit} {w : World} {r : Option Nat} {n : Nat} {K : TypeId} {h v : α → Bool} {sz : Nat}

theorem HasTab.mono (H : HasTab lit w r n K h v sz) {n' : Nat} (hn : n ≤ n') : HasTab lit w r n' K h v sz := by
  rcases H with H | ⟨b, D, e, o, r⟩
  · exact .inl H
  · exact .inr ⟨b, D, e, o.mono hn, r⟩

theorem HasTab.kept (H : HasTab lit w r n K h v sz) {w' : World} {row : Option Nat} (hg : w.grownBy w' row) (hne : r = none ∨ r ≠ row) : HasTab lit w' r n K h v sz := by
  rcases H with H | ⟨b, D, rfl, o, r⟩
  · exact .inl H
  · exact .inr ⟨b, D, rfl, o.kept hg (by simpa using hne), r⟩

theorem HasTab.congr (H : HasTab lit w r n K h v sz) {h' v' : α → Bool} {sz' : Nat} (e1 : ∀ k, h k = h' k) (e2 : ∀ k, v k = v' k) (e3 : sz = sz') : HasTab lit w r n K h' v' sz' := by
  have : h = h' := funext e1
  have : v = v' := funext e2
  subst_vars
  exact H

theorem HasTab.look (H : HasTab lit w r n K h v sz) (law : Keyed Try.prog K) {t : TypeId} (ht : Try.prog.underlying t = some (.map K 4)) {key : Value} {k : α} (hkey : keyOf Try.prog K key = some (lit k)) (c : Bool) :
    (Instr.lookup t (.map r) key c).run Try.prog w = .ok (if c then .tuple #[.bool (v k), .bool (h k)] else .bool (v k)) w := by
  rcases H with ⟨rfl, e1, e2, _⟩ | ⟨b, D, rfl, o, e1, e2, _⟩
  · rw [Maps.look_nil c law ht (zero4 w) hkey, e1, e2]
  · cases c
    · obtain ⟨x, ps, hrun, hx⟩ := o.lookup law ht (zero4 w) (plainElem_bool Try.underlying4 false) hkey
      obtain ⟨y, rfl, hy⟩ := plainElem_bool_inv Try.underlying4 hx
      rw [e2 k] at hy
      simp at hy
      rw [hrun]
      simp [hy.1]
    · obtain ⟨x, ps, hrun, hx⟩ := o.look_ok law ht (zero4 w) (plainElem_bool Try.underlying4 false) hkey
      obtain ⟨y, rfl, hy⟩ := plainElem_bool_inv Try.underlying4 hx
      rw [e2 k] at hy
      simp at hy
      rw [hrun, e1 k]
      simp [hy.1]

theorem HasTab.len (H : HasTab lit w r n K h v sz) {t : TypeId} (ht : Try.prog.underlying t = some (.map K 4)) (ty : TypeId) :
    (Builtin.len_ #[t] ty #[.map r]).run Try.prog w = .ok (.int .i64 sz) w := by
  rcases H with ⟨rfl, _, _, rfl⟩ | ⟨b, D, rfl, o, _, _, rfl⟩
  · exact Maps.len_nil ht ty
  · exact o.len ht ty

theorem HasTab.store [DecidableEq α] (L : KeyLits α lit) {b : Nat} (H : HasTab lit w (some b) n K h v sz) (law : Keyed Try.prog K) {t : TypeId} (ht : Try.prog.underlying t = some (.map K 4)) (hn : n < maxLen) {key : Value} {kl : α} (hkey : keyOf Try.prog K key = some (lit kl)) (x : Bool) :
    ∃ w', (Instr.mapUpdate t (.map (some b)) key (.bool x)).run Try.prog w = .ok () w' ∧ w.grownBy w' (some b) ∧
      HasTab lit w' (some b) (n + 1) K (fun k => decide (k = kl) || h k) (fun k => if k = kl then x else v k) (if h kl then sz else sz + 1) := by
  rcases H with ⟨e, _⟩ | ⟨b', D, e, o, e1, e2, e3⟩
  · cases e
  cases e
  obtain ⟨w', hrun, ho, hg⟩ := o.update law ht hn hkey (plainElem_bool Try.underlying4 x)
  refine ⟨w', hrun, hg, .inr ⟨b, _, rfl, ho, fun k => ?_, fun k => ?_, ?_⟩⟩
  · by_cases e : k = kl
    · subst e; rw [has_put_same o.isMap (L.key k)]; simp
    · rw [has_put_other (fun q => e (L.inj _ _ q)), e1 k]; simp [e]
  · by_cases e : k = kl
    · subst e; rw [atKey_put_same o.isMap (L.key k)]; simp
    · rw [atKey_put_other (fun q => e (L.inj _ _ q)), e2 k]; simp [e]
  · rw [size_put (o.tidy law), e1 kl, e3]
end

theorem HasTab.made {α : Type} (lit : α → Lit) (w : World) (K : TypeId) : HasTab lit (w.alloc (.map #[] 0)) (some w.heap.size) 0 K (fun _ => false) (fun _ => false) 0 :=
  .inr ⟨_, .map [], rfl, World.ownsMap_made _ _ _ _, fun _ => rfl, fun _ => rfl, rfl⟩
theorem HasTab.nil {α : Type} (lit : α → Lit) (w : World) (K : TypeId) : HasTab lit w none 0 K (fun _ => false) (fun _ => false) 0 := .inl ⟨rfl, fun _ => rfl, fun _ => rfl, rfl⟩

theorem keyS {s : ByteArray} (hs : s.size ≤ maxLen) : keyOf Try.prog 9 (.string s) = some (litS s.toList) := by
  rw [show s.toList = s.data.toList from ByteArray.toList_eq s]
  exact WideMaps.keyOf_string_mk Try.underlying9 hs
theorem keyI {i : Int} (hw : (Lit.int .i64 i).wf = true) : keyOf Try.prog 2 (.int .i64 i) = some (litI i) := keyOf_int_mk Try.underlying2 hw

theorem HasTab.alloc {α : Type} {lit : α → Lit} {w : World} {r : Option Nat} {n : Nat} {K : TypeId} {h v : α → Bool} {sz : Nat} (H : HasTab lit w r n K h v sz) (o : Obj) : HasTab lit (w.alloc o) r n K h v sz :=
  H.kept (World.grownBy_alloc w o none) (by cases r <;> simp)

theorem HasTab.some_of {α : Type} {lit : α → Lit} {w : World} {r : Option Nat} {n : Nat} {K : TypeId} {h v : α → Bool} {sz : Nat} (H : HasTab lit w r n K h v sz) {k : α} (hv : v k = true) : ∃ b, r = some b ∧ h k = true := by
  rcases H with ⟨_, _, e, _⟩ | ⟨b, D, rfl, o, e1, e2, _⟩
  · rw [e] at hv; cases hv
  · refine ⟨b, rfl, ?_⟩
    cases hh : h k
    · have := e2 k
      rw [Maps.atKey_of_not_has ((e1 k).trans hh), hv] at this
      cases this
    · rfl

set_option maxHeartbeats 400000 in
theorem drop_no (rf r : Option Nat) (n sz : Nat) (h v : List UInt8 → Bool) (q : ByteArray) (w : World) (H : HasTab litS w r n 9 h v sz) (hq : q.size ≤ maxLen) (hv : v q.toList = false) :
    Calls Try.prog 11 #[.agg #[.map rf, .map r], .string q] w fun e w' => e = .returned (.bool false) ∧ ∃ o, w' = w.alloc o := by
  have hlook := fun o => (H.alloc o).look law9 Try.underlying28 (keyS hq) false
  simp only [Bool.false_eq_true, if_false, hv] at hlook
  clear H hv
  go_enter Try.func11, Try.ntmps11
  go_wp2
  go_ret
  exact ⟨rfl, _, rfl⟩

set_option maxHeartbeats 400000 in
theorem drop_yes (rf : Option Nat) (b n sz : Nat) (h v : List UInt8 → Bool) (q : ByteArray) (w : World) (H : HasTab litS w (some b) n 9 h v sz) (hn : n < maxLen) (hq : q.size ≤ maxLen) (hv : v q.toList = true) (hh : h q.toList = true) :
    Calls Try.prog 11 #[.agg #[.map rf, .map (some b)], .string q] w fun e w' => e = .returned (.bool true) ∧ w.grownBy w' (some b) ∧ HasTab litS w' (some b) (n + 1) 9 h (fun k => if k = q.toList then false else v k) sz := by
  have hlook := fun o => (H.alloc o).look law9 Try.underlying28 (keyS hq) false
  simp only [Bool.false_eq_true, if_false, hv] at hlook
  obtain ⟨w1, hrun, hg, H1⟩ := (H.alloc (.cells #[.map rf, .map (some b)] 40)).store litsS law9 Try.underlying28 hn (keyS hq) false
  have hg' := (World.grownBy_alloc w (.cells #[.map rf, .map (some b)] 40) (some b)).trans hg
  have H2 := H1.congr (h' := h) (v' := fun k => if k = q.toList then false else v k) (sz' := sz) (fun k => by by_cases e : k = q.toList <;> simp [e, hh]) (fun _ => rfl) (by simp [hh])
  clear H H1 hv hh hg
  go_enter Try.func11, Try.ntmps11
  go_wp2
  go_ret
  exact ⟨rfl, hg', H2⟩

set_option maxHeartbeats 400000 in
theorem zzdrop_any (rf r : Option Nat) (n sz : Nat) (h v : List UInt8 → Bool) (q : ByteArray) (w : World) (H : HasTab litS w r n 9 h v sz) (hn : n < maxLen) (hq : q.size ≤ maxLen) :
    Calls Try.prog 7 #[.map rf, .map r, .string q] w fun e w' => e = .returned (.bool (v q.toList)) ∧ w.grownBy w' r ∧ HasTab litS w' r (n + 1) 9 h (fun k => if k = q.toList then false else v k) sz := by
  cases hv : v q.toList
  · go_enter Try.func7, Try.ntmps7
    go_wp2_with fail
    refine (drop_no rf r n sz h v q _ H hq hv).mono ?_
    rintro e w' ⟨rfl, o, rfl⟩
    go_wp2
    go_ret
    refine ⟨rfl, World.grownBy_alloc w o r, ((H.alloc o).mono (Nat.le_succ n)).congr (fun _ => rfl) (fun k => ?_) rfl⟩
    by_cases e : k = q.toList
    · simp [e, hv]
    · simp [e]
  · obtain ⟨b, rfl, hh⟩ := H.some_of hv
    go_enter Try.func7, Try.ntmps7
    go_wp2_with fail
    refine (drop_yes rf b n sz h v q _ H hn hq hv hh).mono ?_
    rintro e w' ⟨rfl, hg, H2⟩
    go_wp2
    go_ret
    exact ⟨rfl, hg, H2⟩
end Go.Proofs.Qxb6623414a
