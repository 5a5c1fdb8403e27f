import Derived.Test.Qxb6605665aSame
namespace Go.Proofs.Qxb6605665a
open Go.RowKit

/-! ### Plain facts on sameB -/
theorem same_eq (v k n m v' k' n' m' : ByteArray) : sameB v k n m v' k' n' m' = ((Plain.group v.data.toList == Plain.group v'.data.toList) && ((k.data.toList == k'.data.toList) && ((n.data.toList == n'.data.toList) && (m.data.toList == m'.data.toList)))) := by
  unfold sameB
  simp only [Lib.toList_data]
  rfl
theorem same_refl (v k n m : ByteArray) : sameB v k n m v k n m = true := by rw [same_eq]; simp
theorem same_comm (v k n m v' k' n' m' : ByteArray) : sameB v k n m v' k' n' m' = sameB v' k' n' m' v k n m := by
  rw [same_eq, same_eq, Bool.eq_iff_iff]
  simp only [Bool.and_eq_true, beq_iff_eq]
  constructor <;> rintro ⟨a, b, c, d⟩ <;> exact ⟨a.symm, b.symm, c.symm, d.symm⟩
theorem app_data (a b : ByteArray) : (a ++ b).data.toList = a.data.toList ++ b.data.toList := by rw [ByteArray.data_append, Array.toList_append]
theorem app_ne {a s : ByteArray} (h : s.data.toList ≠ []) : (a.data.toList == (a ++ s).data.toList) = false := by
  rw [app_data, beq_eq_false_iff_ne]
  intro e
  have := congrArg List.length e
  rw [List.length_append] at this
  exact h (List.length_eq_zero_iff.1 (by omega))
theorem same_kind {v k n m s : ByteArray} (h : s.data.toList ≠ []) : sameB v k n m v (k ++ s) n m = false := by rw [same_eq, app_ne h]; simp
theorem same_space {v k n m s : ByteArray} (h : s.data.toList ≠ []) : sameB v k n m v k (n ++ s) m = false := by rw [same_eq, app_ne h]; simp
theorem same_name {v k n m s : ByteArray} (h : s.data.toList ≠ []) : sameB v k n m v k n (m ++ s) = false := by rw [same_eq, app_ne h]; simp
theorem same_group {v v' : ByteArray} (k n m : ByteArray) : sameB v k n m v' k n m = (Plain.group v.data.toList == Plain.group v'.data.toList) := by rw [same_eq]; simp
theorem no_slash {s : ByteArray} (h : Lib.indexByte s.data.toList 47 = -1) : (47 : UInt8) ∉ s.data.toList := Plain.none_iff.1 h
theorem same_ahead {v k n m s : ByteArray} {i : Nat} (h : s.data.toList ≠ []) (hn : Lib.indexByte s.data.toList 47 = -1) (hi : Lib.indexByte v.data.toList 47 = (i : Nat)) : sameB v k n m (s ++ v) k n m = false := by
  rw [same_group, app_data, beq_eq_false_iff_ne]
  exact fun e => Plain.group_ahead h (no_slash hn) hi e.symm
theorem same_core {v k n m s : ByteArray} (hn : Lib.indexByte s.data.toList 47 = -1) (hi : Lib.indexByte v.data.toList 47 = -1) : sameB v k n m (s ++ v) k n m = true := by
  rw [same_group, app_data, Plain.group_core (no_slash hn) hi, Plain.group_none hi]; rfl
theorem same_moved {v k n m s : ByteArray} (h : s.data.toList ≠ []) (hn : Lib.indexByte s.data.toList 47 = -1) (hi : Lib.indexByte v.data.toList 47 = -1) : sameB v k n m (s ++ ⟨#[47]⟩ ++ v) k n m = false := by
  rw [same_group, app_data, app_data, show (⟨#[47]⟩ : ByteArray).data.toList = [47] from rfl, Plain.group_moved (no_slash hn), Plain.group_none hi, beq_eq_false_iff_ne]
  exact fun e => h e.symm
theorem some_bytes {s : ByteArray} (h : s.toList.isEmpty = false) : s.data.toList ≠ [] := by
  rw [Lib.toList_data] at h
  simpa using h

theorem same_is {v k n m u v' k' n' m' u' : ByteArray} {b : Bool} (hq : sameB v k n m v' k' n' m' = b) (w : World) (hv : v.size ≤ 4194304) (hv' : v'.size ≤ 4194304) :
    Calls Try.prog 20 #[.agg #[.string v, .string k, .string n, .string m, .string u], .agg #[.string v', .string k', .string n', .string m', .string u']] w fun e w' => e = .returned (.bool b) ∧ Below w.heap.size w w' := by
  rw [← hq]
  exact same_any _ _ _ _ _ _ _ _ _ _ w hv hv'

/-! ### The bound on all lengths -/
set_option maxHeartbeats 1000000 in
theorem bytes31_no (a b c d e f : ByteArray) (w : World) (ha : a.size ≤ 9223372036854775807) (hb : b.size ≤ 9223372036854775807) (hc : c.size ≤ 9223372036854775807) (hd : d.size ≤ 9223372036854775807) (he : e.size ≤ 9223372036854775807) (hf : f.size ≤ 9223372036854775807) (h : 1048576 < a.size + b.size + c.size + d.size + e.size + f.size) :
    Calls Try.prog 31 #[.string a, .string b, .string c, .string d, .string e, .string f] w fun e w' => e = .returned (.bool false) ∧ w' = w := by
  go_enter Try.func31, Try.ntmps31
  go_wp2
  all_goals
    go_ret
    exact ⟨rfl, rfl⟩
set_option maxHeartbeats 1000000 in
theorem bytes31_yes (a b c d e f : ByteArray) (w : World) (h : a.size + b.size + c.size + d.size + e.size + f.size ≤ 1048576) :
    Calls Try.prog 31 #[.string a, .string b, .string c, .string d, .string e, .string f] w fun e w' => e = .returned (.bool true) ∧ w' = w := by
  go_enter Try.func31, Try.ntmps31
  go_wp2
  go_ret
  exact ⟨rfl, rfl⟩
set_option maxHeartbeats 4000000 in
theorem walk_group (v k n m u s : ByteArray) (w : World) (hsz : v.size + k.size + n.size + m.size + u.size + s.size ≤ 1048576) (he : s.toList.isEmpty = false) (hn : Lib.indexByte s.data.toList 47 = -1) (i : Nat) (hi : Lib.indexByte v.data.toList 47 = (i : Nat)) :
    Calls Try.prog 8 #[.string v, .string k, .string n, .string m, .string u, .string s] w fun e w' => e = .returned (.bool true) ∧ Below w.heap.size w w' := by
  have hv : v.size ≤ 4194304 := by omega
  have hg : (s ++ v).size ≤ 4194304 := by rw [ByteArray.size_append]; omega
  have Q0 : Hid _ := same_refl v k n m
  have Q1 : Hid _ := same_kind (v := v) (k := k) (n := n) (m := m) (some_bytes he)
  have Q2 : Hid _ := same_space (v := v) (k := k) (n := n) (m := m) (some_bytes he)
  have Q3 : Hid _ := same_name (v := v) (k := k) (n := n) (m := m) (some_bytes he)
  have P1 : Hid _ := (same_comm _ _ _ _ _ _ _ _).trans Q1.out
  have P2 : Hid _ := (same_comm _ _ _ _ _ _ _ _).trans Q2.out
  have P3 : Hid _ := (same_comm _ _ _ _ _ _ _ _).trans Q3.out
  have Q4 : Hid _ := same_ahead (k := k) (n := n) (m := m) (some_bytes he) hn hi
  have P4 : Hid _ := (same_comm _ _ _ _ _ _ _ _).trans Q4.out
  have S := fun w => slash_any s w (by omega)
  have V := fun w => slash_any v w (by omega)
  rw [hn] at S
  rw [hi] at V
  clear hn hi
  go_enter Try.func8, Try.ntmps8
  go_wp2_with (first | (go_at_call 31; refine (bytes31_yes _ _ _ _ _ _ _ hsz).mono ?_; rintro e w9 ⟨rfl, hw⟩; subst w9) | (go_at_call 19; refine (text_small _ _ (by omega)).mono ?_; rintro e w9 ⟨rfl, hw⟩; subst w9) | (go_at_call 30; refine (S _).mono ?_; rintro e w9 ⟨rfl, hw⟩; subst w9))
  refine (same_is (u := u) (u' := u) Q0.out _ hv hv).mono ?_
  rintro e w1 ⟨rfl, hb⟩
  have R1 : Box w1 w.heap.size v k n m u := Box.later hb (Box.new _ _ _ _ _ _)
  have B1 : Below w.heap.size w w1 := below_step ((Below.refl _ _).alloc (Nat.le_refl _) _) hb
  have z1 : w.heap.size < w1.heap.size := by have := hb.size; simp at this; omega
  have r0 := R1.1
  have r1 := R1.2.1
  have r2 := R1.2.2.1
  have r3 := R1.2.2.2.1
  have r4 := R1.2.2.2.2
  clear hb he
  go_wp2_with fail
  refine (same_is (u := u) (u' := u) Q1.out _ hv hv).mono ?_
  rintro e w2 ⟨rfl, hb⟩
  have R2 : Box w2 w.heap.size v k n m u := Box.later hb (R1.alloc _)
  have X2 : Box w2 w1.heap.size v (k ++ s) n m u := Box.later hb (Box.new _ _ _ _ _ _)
  have B2 : Below w.heap.size w w2 := below_step (B1.alloc B1.size _) hb
  have z2 : w.heap.size < w2.heap.size := by have := hb.size; simp at this; omega
  clear hb R1 B1 z1 r0 r1 r2 r3 r4
  have r0 := R2.1
  have r1 := R2.2.1
  have r2 := R2.2.2.1
  have r3 := R2.2.2.2.1
  have r4 := R2.2.2.2.2
  have x0 := X2.1
  have x1 := X2.2.1
  have x2 := X2.2.2.1
  have x3 := X2.2.2.2.1
  have x4 := X2.2.2.2.2
  go_wp2_with fail
  refine (same_is (u := u) (u' := u) P1.out _ hv hv).mono ?_
  rintro e w3 ⟨rfl, hb⟩
  have R3 : Box w3 w.heap.size v k n m u := Box.later hb R2
  have B3 : Below w.heap.size w w3 := below_step B2 hb
  have z3 : w.heap.size < w3.heap.size := by have := hb.size; omega
  clear hb R2 X2 B2 z2 r0 r1 r2 r3 r4 x0 x1 x2 x3 x4
  have r0 := R3.1
  have r1 := R3.2.1
  have r2 := R3.2.2.1
  have r3 := R3.2.2.2.1
  have r4 := R3.2.2.2.2
  go_wp2_with fail
  refine (same_is (u := u) (u' := u) Q2.out _ hv hv).mono ?_
  rintro e w4 ⟨rfl, hb⟩
  have R4 : Box w4 w.heap.size v k n m u := Box.later hb (R3.alloc _)
  have X4 : Box w4 w3.heap.size v k (n ++ s) m u := Box.later hb (Box.new _ _ _ _ _ _)
  have B4 : Below w.heap.size w w4 := below_step (B3.alloc B3.size _) hb
  have z4 : w.heap.size < w4.heap.size := by have := hb.size; simp at this; omega
  clear hb R3 B3 z3 r0 r1 r2 r3 r4
  have r0 := R4.1
  have r1 := R4.2.1
  have r2 := R4.2.2.1
  have r3 := R4.2.2.2.1
  have r4 := R4.2.2.2.2
  have x0 := X4.1
  have x1 := X4.2.1
  have x2 := X4.2.2.1
  have x3 := X4.2.2.2.1
  have x4 := X4.2.2.2.2
  go_wp2_with fail
  refine (same_is (u := u) (u' := u) P2.out _ hv hv).mono ?_
  rintro e w5 ⟨rfl, hb⟩
  have R5 : Box w5 w.heap.size v k n m u := Box.later hb R4
  have B5 : Below w.heap.size w w5 := below_step B4 hb
  have z5 : w.heap.size < w5.heap.size := by have := hb.size; omega
  clear hb R4 X4 B4 z4 r0 r1 r2 r3 r4 x0 x1 x2 x3 x4
  have r0 := R5.1
  have r1 := R5.2.1
  have r2 := R5.2.2.1
  have r3 := R5.2.2.2.1
  have r4 := R5.2.2.2.2
  go_wp2_with fail
  refine (same_is (u := u) (u' := u) Q3.out _ hv hv).mono ?_
  rintro e w6 ⟨rfl, hb⟩
  have R6 : Box w6 w.heap.size v k n m u := Box.later hb (R5.alloc _)
  have X6 : Box w6 w5.heap.size v k n (m ++ s) u := Box.later hb (Box.new _ _ _ _ _ _)
  have B6 : Below w.heap.size w w6 := below_step (B5.alloc B5.size _) hb
  have z6 : w.heap.size < w6.heap.size := by have := hb.size; simp at this; omega
  clear hb R5 B5 z5 r0 r1 r2 r3 r4
  have r0 := R6.1
  have r1 := R6.2.1
  have r2 := R6.2.2.1
  have r3 := R6.2.2.2.1
  have r4 := R6.2.2.2.2
  have x0 := X6.1
  have x1 := X6.2.1
  have x2 := X6.2.2.1
  have x3 := X6.2.2.2.1
  have x4 := X6.2.2.2.2
  go_wp2_with fail
  refine (same_is (u := u) (u' := u) P3.out _ hv hv).mono ?_
  rintro e w7 ⟨rfl, hb⟩
  have R7 : Box w7 w.heap.size v k n m u := Box.later hb R6
  have B7 : Below w.heap.size w w7 := below_step B6 hb
  have z7 : w.heap.size < w7.heap.size := by have := hb.size; omega
  clear hb R6 X6 B6 z6 r0 r1 r2 r3 r4 x0 x1 x2 x3 x4
  have r0 := R7.1
  have r1 := R7.2.1
  have r2 := R7.2.2.1
  have r3 := R7.2.2.2.1
  have r4 := R7.2.2.2.2
  go_wp2_with (first | (go_at_call 30; refine (V _).mono ?_; rintro e w9 ⟨rfl, hw⟩; subst w9))
  refine (same_is (u := u) (u' := u) Q4.out _ hv hg).mono ?_
  rintro e w8 ⟨rfl, hb⟩
  have R8 : Box w8 w.heap.size v k n m u := Box.later hb (R7.alloc _)
  have X8 : Box w8 w7.heap.size (s ++ v) k n m u := Box.later hb (Box.new _ _ _ _ _ _)
  have B8 : Below w.heap.size w w8 := below_step (B7.alloc B7.size _) hb
  have z8 : w.heap.size < w8.heap.size := by have := hb.size; simp at this; omega
  clear hb R7 B7 z7 r0 r1 r2 r3 r4
  have r0 := R8.1
  have r1 := R8.2.1
  have r2 := R8.2.2.1
  have r3 := R8.2.2.2.1
  have r4 := R8.2.2.2.2
  have x0 := X8.1
  have x1 := X8.2.1
  have x2 := X8.2.2.1
  have x3 := X8.2.2.2.1
  have x4 := X8.2.2.2.2
  go_wp2_with fail
  refine (same_is (u := u) (u' := u) P4.out _ hg hv).mono ?_
  rintro e w9 ⟨rfl, hb⟩
  have R9 : Box w9 w.heap.size v k n m u := Box.later hb R8
  have B9 : Below w.heap.size w w9 := below_step B8 hb
  have z9 : w.heap.size < w9.heap.size := by have := hb.size; omega
  clear hb R8 X8 B8 z8 r0 r1 r2 r3 r4 x0 x1 x2 x3 x4
  have r0 := R9.1
  have r1 := R9.2.1
  have r2 := R9.2.2.1
  have r3 := R9.2.2.2.1
  have r4 := R9.2.2.2.2
  go_wp2
  go_ret
  exact ⟨rfl, B9⟩
set_option maxHeartbeats 4000000 in
theorem walk_core (v k n m u s : ByteArray) (w : World) (hsz : v.size + k.size + n.size + m.size + u.size + s.size ≤ 1048576) (he : s.toList.isEmpty = false) (hn : Lib.indexByte s.data.toList 47 = -1) (hi : Lib.indexByte v.data.toList 47 = -1) :
    Calls Try.prog 8 #[.string v, .string k, .string n, .string m, .string u, .string s] w fun e w' => e = .returned (.bool true) ∧ Below w.heap.size w w' := by
  have hv : v.size ≤ 4194304 := by omega
  have hg : (s ++ v).size ≤ 4194304 := by rw [ByteArray.size_append]; omega
  have Q0 : Hid _ := same_refl v k n m
  have Q1 : Hid _ := same_kind (v := v) (k := k) (n := n) (m := m) (some_bytes he)
  have Q2 : Hid _ := same_space (v := v) (k := k) (n := n) (m := m) (some_bytes he)
  have Q3 : Hid _ := same_name (v := v) (k := k) (n := n) (m := m) (some_bytes he)
  have P1 : Hid _ := (same_comm _ _ _ _ _ _ _ _).trans Q1.out
  have P2 : Hid _ := (same_comm _ _ _ _ _ _ _ _).trans Q2.out
  have P3 : Hid _ := (same_comm _ _ _ _ _ _ _ _).trans Q3.out
  have hm : (s ++ ⟨#[47]⟩ ++ v).size ≤ 4194304 := by rw [ByteArray.size_append, ByteArray.size_append]; have : (⟨#[47]⟩ : ByteArray).size = 1 := rfl; omega
  have Q4 : Hid _ := same_core (k := k) (n := n) (m := m) hn hi
  have P4 : Hid _ := (same_comm _ _ _ _ _ _ _ _).trans Q4.out
  have Q5 : Hid _ := same_moved (k := k) (n := n) (m := m) (some_bytes he) hn hi
  have P5 : Hid _ := (same_comm _ _ _ _ _ _ _ _).trans Q5.out
  have S := fun w => slash_any s w (by omega)
  have V := fun w => slash_any v w (by omega)
  rw [hn] at S
  rw [hi] at V
  clear hn hi
  go_enter Try.func8, Try.ntmps8
  go_wp2_with (first | (go_at_call 31; refine (bytes31_yes _ _ _ _ _ _ _ hsz).mono ?_; rintro e w9 ⟨rfl, hw⟩; subst w9) | (go_at_call 19; refine (text_small _ _ (by omega)).mono ?_; rintro e w9 ⟨rfl, hw⟩; subst w9) | (go_at_call 30; refine (S _).mono ?_; rintro e w9 ⟨rfl, hw⟩; subst w9))
  refine (same_is (u := u) (u' := u) Q0.out _ hv hv).mono ?_
  rintro e w1 ⟨rfl, hb⟩
  have R1 : Box w1 w.heap.size v k n m u := Box.later hb (Box.new _ _ _ _ _ _)
  have B1 : Below w.heap.size w w1 := below_step ((Below.refl _ _).alloc (Nat.le_refl _) _) hb
  have z1 : w.heap.size < w1.heap.size := by have := hb.size; simp at this; omega
  have r0 := R1.1
  have r1 := R1.2.1
  have r2 := R1.2.2.1
  have r3 := R1.2.2.2.1
  have r4 := R1.2.2.2.2
  clear hb he
  go_wp2_with fail
  refine (same_is (u := u) (u' := u) Q1.out _ hv hv).mono ?_
  rintro e w2 ⟨rfl, hb⟩
  have R2 : Box w2 w.heap.size v k n m u := Box.later hb (R1.alloc _)
  have X2 : Box w2 w1.heap.size v (k ++ s) n m u := Box.later hb (Box.new _ _ _ _ _ _)
  have B2 : Below w.heap.size w w2 := below_step (B1.alloc B1.size _) hb
  have z2 : w.heap.size < w2.heap.size := by have := hb.size; simp at this; omega
  clear hb R1 B1 z1 r0 r1 r2 r3 r4
  have r0 := R2.1
  have r1 := R2.2.1
  have r2 := R2.2.2.1
  have r3 := R2.2.2.2.1
  have r4 := R2.2.2.2.2
  have x0 := X2.1
  have x1 := X2.2.1
  have x2 := X2.2.2.1
  have x3 := X2.2.2.2.1
  have x4 := X2.2.2.2.2
  go_wp2_with fail
  refine (same_is (u := u) (u' := u) P1.out _ hv hv).mono ?_
  rintro e w3 ⟨rfl, hb⟩
  have R3 : Box w3 w.heap.size v k n m u := Box.later hb R2
  have B3 : Below w.heap.size w w3 := below_step B2 hb
  have z3 : w.heap.size < w3.heap.size := by have := hb.size; omega
  clear hb R2 X2 B2 z2 r0 r1 r2 r3 r4 x0 x1 x2 x3 x4
  have r0 := R3.1
  have r1 := R3.2.1
  have r2 := R3.2.2.1
  have r3 := R3.2.2.2.1
  have r4 := R3.2.2.2.2
  go_wp2_with fail
  refine (same_is (u := u) (u' := u) Q2.out _ hv hv).mono ?_
  rintro e w4 ⟨rfl, hb⟩
  have R4 : Box w4 w.heap.size v k n m u := Box.later hb (R3.alloc _)
  have X4 : Box w4 w3.heap.size v k (n ++ s) m u := Box.later hb (Box.new _ _ _ _ _ _)
  have B4 : Below w.heap.size w w4 := below_step (B3.alloc B3.size _) hb
  have z4 : w.heap.size < w4.heap.size := by have := hb.size; simp at this; omega
  clear hb R3 B3 z3 r0 r1 r2 r3 r4
  have r0 := R4.1
  have r1 := R4.2.1
  have r2 := R4.2.2.1
  have r3 := R4.2.2.2.1
  have r4 := R4.2.2.2.2
  have x0 := X4.1
  have x1 := X4.2.1
  have x2 := X4.2.2.1
  have x3 := X4.2.2.2.1
  have x4 := X4.2.2.2.2
  go_wp2_with fail
  refine (same_is (u := u) (u' := u) P2.out _ hv hv).mono ?_
  rintro e w5 ⟨rfl, hb⟩
  have R5 : Box w5 w.heap.size v k n m u := Box.later hb R4
  have B5 : Below w.heap.size w w5 := below_step B4 hb
  have z5 : w.heap.size < w5.heap.size := by have := hb.size; omega
  clear hb R4 X4 B4 z4 r0 r1 r2 r3 r4 x0 x1 x2 x3 x4
  have r0 := R5.1
  have r1 := R5.2.1
  have r2 := R5.2.2.1
  have r3 := R5.2.2.2.1
  have r4 := R5.2.2.2.2
  go_wp2_with fail
  refine (same_is (u := u) (u' := u) Q3.out _ hv hv).mono ?_
  rintro e w6 ⟨rfl, hb⟩
  have R6 : Box w6 w.heap.size v k n m u := Box.later hb (R5.alloc _)
  have X6 : Box w6 w5.heap.size v k n (m ++ s) u := Box.later hb (Box.new _ _ _ _ _ _)
  have B6 : Below w.heap.size w w6 := below_step (B5.alloc B5.size _) hb
  have z6 : w.heap.size < w6.heap.size := by have := hb.size; simp at this; omega
  clear hb R5 B5 z5 r0 r1 r2 r3 r4
  have r0 := R6.1
  have r1 := R6.2.1
  have r2 := R6.2.2.1
  have r3 := R6.2.2.2.1
  have r4 := R6.2.2.2.2
  have x0 := X6.1
  have x1 := X6.2.1
  have x2 := X6.2.2.1
  have x3 := X6.2.2.2.1
  have x4 := X6.2.2.2.2
  go_wp2_with fail
  refine (same_is (u := u) (u' := u) P3.out _ hv hv).mono ?_
  rintro e w7 ⟨rfl, hb⟩
  have R7 : Box w7 w.heap.size v k n m u := Box.later hb R6
  have B7 : Below w.heap.size w w7 := below_step B6 hb
  have z7 : w.heap.size < w7.heap.size := by have := hb.size; omega
  clear hb R6 X6 B6 z6 r0 r1 r2 r3 r4 x0 x1 x2 x3 x4
  have r0 := R7.1
  have r1 := R7.2.1
  have r2 := R7.2.2.1
  have r3 := R7.2.2.2.1
  have r4 := R7.2.2.2.2
  go_wp2_with (first | (go_at_call 30; refine (V _).mono ?_; rintro e w9 ⟨rfl, hw⟩; subst w9))
  refine (same_is (u := u) (u' := u) Q4.out _ hv hg).mono ?_
  rintro e w8 ⟨rfl, hb⟩
  have R8 : Box w8 w.heap.size v k n m u := Box.later hb (R7.alloc _)
  have X8 : Box w8 w7.heap.size (s ++ v) k n m u := Box.later hb (Box.new _ _ _ _ _ _)
  have B8 : Below w.heap.size w w8 := below_step (B7.alloc B7.size _) hb
  have z8 : w.heap.size < w8.heap.size := by have := hb.size; simp at this; omega
  clear hb R7 B7 z7 r0 r1 r2 r3 r4
  have r0 := R8.1
  have r1 := R8.2.1
  have r2 := R8.2.2.1
  have r3 := R8.2.2.2.1
  have r4 := R8.2.2.2.2
  have x0 := X8.1
  have x1 := X8.2.1
  have x2 := X8.2.2.1
  have x3 := X8.2.2.2.1
  have x4 := X8.2.2.2.2
  go_wp2_with fail
  refine (same_is (u := u) (u' := u) P4.out _ hg hv).mono ?_
  rintro e w9 ⟨rfl, hb⟩
  have R9 : Box w9 w.heap.size v k n m u := Box.later hb R8
  have B9 : Below w.heap.size w w9 := below_step B8 hb
  have z9 : w.heap.size < w9.heap.size := by have := hb.size; omega
  clear hb R8 X8 B8 z8 r0 r1 r2 r3 r4 x0 x1 x2 x3 x4
  have r0 := R9.1
  have r1 := R9.2.1
  have r2 := R9.2.2.1
  have r3 := R9.2.2.2.1
  have r4 := R9.2.2.2.2
  go_wp2_with fail
  refine (same_is (u := u) (u' := u) Q5.out _ hv hm).mono ?_
  rintro e w10 ⟨rfl, hb⟩
  have R10 : Box w10 w.heap.size v k n m u := Box.later hb (R9.alloc _)
  have X10 : Box w10 w9.heap.size (s ++ ⟨#[47]⟩ ++ v) k n m u := Box.later hb (Box.new _ _ _ _ _ _)
  have B10 : Below w.heap.size w w10 := below_step (B9.alloc B9.size _) hb
  have z10 : w.heap.size < w10.heap.size := by have := hb.size; simp at this; omega
  clear hb R9 B9 z9 r0 r1 r2 r3 r4
  have r0 := R10.1
  have r1 := R10.2.1
  have r2 := R10.2.2.1
  have r3 := R10.2.2.2.1
  have r4 := R10.2.2.2.2
  have x0 := X10.1
  have x1 := X10.2.1
  have x2 := X10.2.2.1
  have x3 := X10.2.2.2.1
  have x4 := X10.2.2.2.2
  go_wp2_with fail
  refine (same_is (u := u) (u' := u) P5.out _ hm hv).mono ?_
  rintro e w11 ⟨rfl, hb⟩
  have R11 : Box w11 w.heap.size v k n m u := Box.later hb R10
  have B11 : Below w.heap.size w w11 := below_step B10 hb
  have z11 : w.heap.size < w11.heap.size := by have := hb.size; omega
  clear hb R10 X10 B10 z10 r0 r1 r2 r3 r4 x0 x1 x2 x3 x4
  have r0 := R11.1
  have r1 := R11.2.1
  have r2 := R11.2.2.1
  have r3 := R11.2.2.2.1
  have r4 := R11.2.2.2.2
  go_wp2
  go_ret
  exact ⟨rfl, B11⟩
end Go.Proofs.Qxb6605665a
