import Derived.Test.Qxb6605665aGroup
import Derived.Deep.QuietTactic
import Derived.BigQuiet
namespace Go.Proofs.Qxb6605665a
open Go.RowKit
/-- A Ref's five cells at the head of block b. -/
def Box (w : World) (b : Nat) (v k n m u : ByteArray) : Prop :=
  w.cell? ⟨b, 0, none⟩ = some (.string v) ∧ w.cell? ⟨b, 1, none⟩ = some (.string k) ∧ w.cell? ⟨b, 2, none⟩ = some (.string n) ∧ w.cell? ⟨b, 3, none⟩ = some (.string m) ∧ w.cell? ⟨b, 4, none⟩ = some (.string u)
theorem Box.later {W w1 : World} {b : Nat} {v k n m u : ByteArray} (hb : Below W.heap.size W w1) (h : Box W b v k n m u) : Box w1 b v k n m u :=
  ⟨cell_later hb h.1, cell_later hb h.2.1, cell_later hb h.2.2.1, cell_later hb h.2.2.2.1, cell_later hb h.2.2.2.2⟩
theorem Box.new (w : World) (v k n m u : ByteArray) : Box (w.alloc (.cells #[.string v, .string k, .string n, .string m, .string u] 33)) w.heap.size v k n m u := by
  unfold Box
  refine ⟨?_, ?_, ?_, ?_, ?_⟩ <;> simp
theorem Box.alloc {w : World} {b : Nat} {v k n m u : ByteArray} (h : Box w b v k n m u) (o : Obj) : Box (w.alloc o) b v k n m u :=
  h.later ((Below.refl _ _).alloc (Nat.le_refl _) o)
/-- A world in which all that stood in W stands as it stood. -/
structure Kept (W : World) where
  w : World
  below : Below W.heap.size W w
theorem below_step {w w1 w2 : World} (h : Below w.heap.size w w1) (k : Below w1.heap.size w1 w2) : Below w.heap.size w w2 := h.trans (k.mono h.size)
theorem region_kept {P : Program} {id : Nat} {Q : Exit → Act → World → Prop} {a : Act} {w : World} {l : List Oper} (hm : P.follows .mixedOrders = true) (hB : Region.lexB .any l.toArray = true)
    (h : wpQuiet P l.toArray (fun w' => ∃ x : Kept w, w' = x.w) (fun a' => ∀ w', (∃ x : Kept w, w' = x.w) → Q .normal a' w') l a) : (Code.region id l.toArray true).wp P Q a w :=
  wp_region_quiet (C := fun w' => ∃ x : Kept w, w' = x.w) hm hB ⟨⟨_, (Below.refl _ _).drew⟩, rfl⟩ (by simpa using h)
theorem kept_call {P : Program} {f : FuncId} {args : Array Value} {W : World} {x : Kept W} {v : Value} (h : Calls P f args x.w fun e w' => e = .returned v ∧ Below x.w.heap.size x.w w') :
    Calls P f args x.w fun e w'' => e = .returned v ∧ ∃ y : Kept W, w'' = y.w :=
  h.mono fun _ w' ⟨he, hb⟩ => ⟨he, ⟨w', below_step x.below hb⟩, rfl⟩
theorem Kept.cells {W : World} {b : Nat} {v k n m u : ByteArray} (h : Box W b v k n m u) :
    (∀ x : Kept W, x.w.cell? ⟨b, 0, none⟩ = some (.string v)) ∧ (∀ x : Kept W, x.w.cell? ⟨b, 1, none⟩ = some (.string k)) ∧ (∀ x : Kept W, x.w.cell? ⟨b, 2, none⟩ = some (.string n)) ∧ (∀ x : Kept W, x.w.cell? ⟨b, 3, none⟩ = some (.string m)) ∧ (∀ x : Kept W, x.w.cell? ⟨b, 4, none⟩ = some (.string u)) :=
  ⟨fun x => (h.later x.below).1, fun x => (h.later x.below).2.1, fun x => (h.later x.below).2.2.1, fun x => (h.later x.below).2.2.2.1, fun x => (h.later x.below).2.2.2.2⟩

set_option maxHeartbeats 1000000 in
theorem same_0 (v k n m u v' k' n' m' u' : ByteArray) (w : World) (hv : v.size ≤ 4194304) (hv' : v'.size ≤ 4194304) (t0 : ((groupB v).toList == (groupB v').toList) = false) :
    Calls Try.prog 20 #[.agg #[.string v, .string k, .string n, .string m, .string u], .agg #[.string v', .string k', .string n', .string m', .string u']] w fun e w' => e = .returned (.bool false) ∧ Below w.heap.size w w' := by
  have B0 : Box ((w.alloc (.cells #[.string v, .string k, .string n, .string m, .string u] 33)).alloc (.cells #[.string v', .string k', .string n', .string m', .string u'] 33)) w.heap.size v k n m u := (Box.new _ _ _ _ _ _).alloc _
  have B1 : Box ((w.alloc (.cells #[.string v, .string k, .string n, .string m, .string u] 33)).alloc (.cells #[.string v', .string k', .string n', .string m', .string u'] 33)) (w.heap.size + 1) v' k' n' m' u' := by
    have := Box.new (w.alloc (.cells #[.string v, .string k, .string n, .string m, .string u] 33)) v' k' n' m' u'
    simpa using this
  obtain ⟨x0, x1, x2, x3, x4⟩ := Kept.cells B0
  obtain ⟨y0, y1, y2, y3, y4⟩ := Kept.cells B1
  have hne : Nonempty (Kept ((w.alloc (.cells #[.string v, .string k, .string n, .string m, .string u] 33)).alloc (.cells #[.string v', .string k', .string n', .string m', .string u'] 33))) := ⟨⟨_, Below.refl _ _⟩⟩
  clear B0 B1
  go_enter Try.func20, Try.ntmps20
  go_wp2
  refine region_kept (by kernel_rfl) (by kernel_rfl) ?_
  repeat (quiet_step ((go_at_call 33; exact kept_call (group_any _ _ _ _ _ _ (by first | exact hv | exact hv')))))
  refine wpQuiet_nil ?_
  intro w' hw'
  obtain ⟨x, hx⟩ := hw'
  subst hx
  clear x0 x1 x2 x3 x4 y0 y1 y2 y3 y4
  have E : Below w.heap.size w x.w := below_step ((Below.refl w.heap.size w).alloc (Nat.le_refl _) _) (below_step ((Below.refl _ _).alloc (Nat.le_refl _) _) x.below)
  go_wp2
  go_ret
  exact ⟨rfl, E⟩
set_option maxHeartbeats 1000000 in
theorem same_1 (v k n m u v' k' n' m' u' : ByteArray) (w : World) (hv : v.size ≤ 4194304) (hv' : v'.size ≤ 4194304) (t0 : ((groupB v).toList == (groupB v').toList) = true) (t1 : (k.toList == k'.toList) = false) :
    Calls Try.prog 20 #[.agg #[.string v, .string k, .string n, .string m, .string u], .agg #[.string v', .string k', .string n', .string m', .string u']] w fun e w' => e = .returned (.bool false) ∧ Below w.heap.size w w' := by
  have B0 : Box ((w.alloc (.cells #[.string v, .string k, .string n, .string m, .string u] 33)).alloc (.cells #[.string v', .string k', .string n', .string m', .string u'] 33)) w.heap.size v k n m u := (Box.new _ _ _ _ _ _).alloc _
  have B1 : Box ((w.alloc (.cells #[.string v, .string k, .string n, .string m, .string u] 33)).alloc (.cells #[.string v', .string k', .string n', .string m', .string u'] 33)) (w.heap.size + 1) v' k' n' m' u' := by
    have := Box.new (w.alloc (.cells #[.string v, .string k, .string n, .string m, .string u] 33)) v' k' n' m' u'
    simpa using this
  obtain ⟨x0, x1, x2, x3, x4⟩ := Kept.cells B0
  obtain ⟨y0, y1, y2, y3, y4⟩ := Kept.cells B1
  have hne : Nonempty (Kept ((w.alloc (.cells #[.string v, .string k, .string n, .string m, .string u] 33)).alloc (.cells #[.string v', .string k', .string n', .string m', .string u'] 33))) := ⟨⟨_, Below.refl _ _⟩⟩
  clear B0 B1
  go_enter Try.func20, Try.ntmps20
  go_wp2
  refine region_kept (by kernel_rfl) (by kernel_rfl) ?_
  repeat (quiet_step ((go_at_call 33; exact kept_call (group_any _ _ _ _ _ _ (by first | exact hv | exact hv')))))
  refine wpQuiet_nil ?_
  intro w' hw'
  obtain ⟨x, hx⟩ := hw'
  subst hx
  clear x0 x1 x2 x3 x4 y0 y1 y2 y3 y4
  have E : Below w.heap.size w x.w := below_step ((Below.refl w.heap.size w).alloc (Nat.le_refl _) _) (below_step ((Below.refl _ _).alloc (Nat.le_refl _) _) x.below)
  go_wp2
  go_ret
  exact ⟨rfl, E⟩
set_option maxHeartbeats 1000000 in
theorem same_2 (v k n m u v' k' n' m' u' : ByteArray) (w : World) (hv : v.size ≤ 4194304) (hv' : v'.size ≤ 4194304) (t0 : ((groupB v).toList == (groupB v').toList) = true) (t1 : (k.toList == k'.toList) = true) (t2 : (n.toList == n'.toList) = false) :
    Calls Try.prog 20 #[.agg #[.string v, .string k, .string n, .string m, .string u], .agg #[.string v', .string k', .string n', .string m', .string u']] w fun e w' => e = .returned (.bool false) ∧ Below w.heap.size w w' := by
  have B0 : Box ((w.alloc (.cells #[.string v, .string k, .string n, .string m, .string u] 33)).alloc (.cells #[.string v', .string k', .string n', .string m', .string u'] 33)) w.heap.size v k n m u := (Box.new _ _ _ _ _ _).alloc _
  have B1 : Box ((w.alloc (.cells #[.string v, .string k, .string n, .string m, .string u] 33)).alloc (.cells #[.string v', .string k', .string n', .string m', .string u'] 33)) (w.heap.size + 1) v' k' n' m' u' := by
    have := Box.new (w.alloc (.cells #[.string v, .string k, .string n, .string m, .string u] 33)) v' k' n' m' u'
    simpa using this
  obtain ⟨x0, x1, x2, x3, x4⟩ := Kept.cells B0
  obtain ⟨y0, y1, y2, y3, y4⟩ := Kept.cells B1
  have hne : Nonempty (Kept ((w.alloc (.cells #[.string v, .string k, .string n, .string m, .string u] 33)).alloc (.cells #[.string v', .string k', .string n', .string m', .string u'] 33))) := ⟨⟨_, Below.refl _ _⟩⟩
  clear B0 B1
  go_enter Try.func20, Try.ntmps20
  go_wp2
  refine region_kept (by kernel_rfl) (by kernel_rfl) ?_
  repeat (quiet_step ((go_at_call 33; exact kept_call (group_any _ _ _ _ _ _ (by first | exact hv | exact hv')))))
  refine wpQuiet_nil ?_
  intro w' hw'
  obtain ⟨x, hx⟩ := hw'
  subst hx
  clear x0 x1 x2 x3 x4 y0 y1 y2 y3 y4
  have E : Below w.heap.size w x.w := below_step ((Below.refl w.heap.size w).alloc (Nat.le_refl _) _) (below_step ((Below.refl _ _).alloc (Nat.le_refl _) _) x.below)
  go_wp2
  go_ret
  exact ⟨rfl, E⟩
set_option maxHeartbeats 1000000 in
theorem same_3 (v k n m u v' k' n' m' u' : ByteArray) (w : World) (hv : v.size ≤ 4194304) (hv' : v'.size ≤ 4194304) (t0 : ((groupB v).toList == (groupB v').toList) = true) (t1 : (k.toList == k'.toList) = true) (t2 : (n.toList == n'.toList) = true) (t3 : (m.toList == m'.toList) = false) :
    Calls Try.prog 20 #[.agg #[.string v, .string k, .string n, .string m, .string u], .agg #[.string v', .string k', .string n', .string m', .string u']] w fun e w' => e = .returned (.bool false) ∧ Below w.heap.size w w' := by
  have B0 : Box ((w.alloc (.cells #[.string v, .string k, .string n, .string m, .string u] 33)).alloc (.cells #[.string v', .string k', .string n', .string m', .string u'] 33)) w.heap.size v k n m u := (Box.new _ _ _ _ _ _).alloc _
  have B1 : Box ((w.alloc (.cells #[.string v, .string k, .string n, .string m, .string u] 33)).alloc (.cells #[.string v', .string k', .string n', .string m', .string u'] 33)) (w.heap.size + 1) v' k' n' m' u' := by
    have := Box.new (w.alloc (.cells #[.string v, .string k, .string n, .string m, .string u] 33)) v' k' n' m' u'
    simpa using this
  obtain ⟨x0, x1, x2, x3, x4⟩ := Kept.cells B0
  obtain ⟨y0, y1, y2, y3, y4⟩ := Kept.cells B1
  have hne : Nonempty (Kept ((w.alloc (.cells #[.string v, .string k, .string n, .string m, .string u] 33)).alloc (.cells #[.string v', .string k', .string n', .string m', .string u'] 33))) := ⟨⟨_, Below.refl _ _⟩⟩
  clear B0 B1
  go_enter Try.func20, Try.ntmps20
  go_wp2
  refine region_kept (by kernel_rfl) (by kernel_rfl) ?_
  repeat (quiet_step ((go_at_call 33; exact kept_call (group_any _ _ _ _ _ _ (by first | exact hv | exact hv')))))
  refine wpQuiet_nil ?_
  intro w' hw'
  obtain ⟨x, hx⟩ := hw'
  subst hx
  clear x0 x1 x2 x3 x4 y0 y1 y2 y3 y4
  have E : Below w.heap.size w x.w := below_step ((Below.refl w.heap.size w).alloc (Nat.le_refl _) _) (below_step ((Below.refl _ _).alloc (Nat.le_refl _) _) x.below)
  go_wp2
  go_ret
  exact ⟨rfl, E⟩
set_option maxHeartbeats 1000000 in
theorem same_4 (v k n m u v' k' n' m' u' : ByteArray) (w : World) (hv : v.size ≤ 4194304) (hv' : v'.size ≤ 4194304) (t0 : ((groupB v).toList == (groupB v').toList) = true) (t1 : (k.toList == k'.toList) = true) (t2 : (n.toList == n'.toList) = true) (t3 : (m.toList == m'.toList) = true) :
    Calls Try.prog 20 #[.agg #[.string v, .string k, .string n, .string m, .string u], .agg #[.string v', .string k', .string n', .string m', .string u']] w fun e w' => e = .returned (.bool true) ∧ Below w.heap.size w w' := by
  have B0 : Box ((w.alloc (.cells #[.string v, .string k, .string n, .string m, .string u] 33)).alloc (.cells #[.string v', .string k', .string n', .string m', .string u'] 33)) w.heap.size v k n m u := (Box.new _ _ _ _ _ _).alloc _
  have B1 : Box ((w.alloc (.cells #[.string v, .string k, .string n, .string m, .string u] 33)).alloc (.cells #[.string v', .string k', .string n', .string m', .string u'] 33)) (w.heap.size + 1) v' k' n' m' u' := by
    have := Box.new (w.alloc (.cells #[.string v, .string k, .string n, .string m, .string u] 33)) v' k' n' m' u'
    simpa using this
  obtain ⟨x0, x1, x2, x3, x4⟩ := Kept.cells B0
  obtain ⟨y0, y1, y2, y3, y4⟩ := Kept.cells B1
  have hne : Nonempty (Kept ((w.alloc (.cells #[.string v, .string k, .string n, .string m, .string u] 33)).alloc (.cells #[.string v', .string k', .string n', .string m', .string u'] 33))) := ⟨⟨_, Below.refl _ _⟩⟩
  clear B0 B1
  go_enter Try.func20, Try.ntmps20
  go_wp2
  refine region_kept (by kernel_rfl) (by kernel_rfl) ?_
  repeat (quiet_step ((go_at_call 33; exact kept_call (group_any _ _ _ _ _ _ (by first | exact hv | exact hv')))))
  refine wpQuiet_nil ?_
  intro w' hw'
  obtain ⟨x, hx⟩ := hw'
  subst hx
  clear x0 x1 x2 x3 x4 y0 y1 y2 y3 y4
  have E : Below w.heap.size w x.w := below_step ((Below.refl w.heap.size w).alloc (Nat.le_refl _) _) (below_step ((Below.refl _ _).alloc (Nat.le_refl _) _) x.below)
  go_wp2
  go_ret
  exact ⟨rfl, E⟩

/-- What SameName answers. -/
def sameB (v k n m v' k' n' m' : ByteArray) : Bool := ((groupB v).toList == (groupB v').toList) && ((k.toList == k'.toList) && ((n.toList == n'.toList) && (m.toList == m'.toList)))
theorem bool_two (b : Bool) : b = true ∨ b = false := by cases b <;> simp
theorem same_any (v k n m u v' k' n' m' u' : ByteArray) (w : World) (hv : v.size ≤ 4194304) (hv' : v'.size ≤ 4194304) :
    Calls Try.prog 20 #[.agg #[.string v, .string k, .string n, .string m, .string u], .agg #[.string v', .string k', .string n', .string m', .string u']] w fun e w' => e = .returned (.bool (sameB v k n m v' k' n' m')) ∧ Below w.heap.size w w' := by
  unfold sameB
  rcases bool_two ((groupB v).toList == (groupB v').toList) with t0 | t0
  · rcases bool_two (k.toList == k'.toList) with t1 | t1
    · rcases bool_two (n.toList == n'.toList) with t2 | t2
      · rcases bool_two (m.toList == m'.toList) with t3 | t3
        · have := same_4 v k n m u v' k' n' m' u' w hv hv' t0 t1 t2 t3
          rw [t0, t1, t2, t3]; exact this
        · have := same_3 v k n m u v' k' n' m' u' w hv hv' t0 t1 t2 t3
          rw [t0, t1, t2, t3]; exact this
      · have := same_2 v k n m u v' k' n' m' u' w hv hv' t0 t1 t2
        rw [t0, t1, t2]; exact this
    · have := same_1 v k n m u v' k' n' m' u' w hv hv' t0 t1
      rw [t0, t1]; exact this
  · have := same_0 v k n m u v' k' n' m' u' w hv hv' t0
    rw [t0]; exact this
end Go.Proofs.Qxb6605665a
