import Derived.Test.Qxb6605665aTells
import Derived.Deep.RegionWith
namespace Go.Proofs.Qxb6605665a
open Go.RowKit

/-! ### Plain -/
theorem same_congr {v x : ByteArray} (h : Plain.group x.data.toList = Plain.group v.data.toList) (k n m v' k' n' m' : ByteArray) : sameB x k n m v' k' n' m' = sameB v k n m v' k' n' m' := by
  rw [same_eq, same_eq, h]
theorem group_cut {v t : ByteArray} {i : Nat} (h : Lib.indexByte v.data.toList 47 = (i : Nat)) : Plain.group (v.extract 0 (i + 1) ++ t).data.toList = Plain.group v.data.toList := by
  rw [app_data, before_data]
  exact Plain.group_version _ _ h
theorem group_both {v x : ByteArray} (h : Lib.indexByte v.data.toList 47 = -1) (hx : Lib.indexByte x.data.toList 47 = -1) : Plain.group x.data.toList = Plain.group v.data.toList := by
  rw [Plain.group_none h, Plain.group_none hx]

/-! ### The bound on all lengths -/
set_option maxHeartbeats 4000000 in
theorem bytes29_no (v k n m u v' k' n' m' u' u2 x : ByteArray) (w : World) (s0 : v.size ≤ 9223372036854775807) (s1 : k.size ≤ 9223372036854775807) (s2 : n.size ≤ 9223372036854775807) (s3 : m.size ≤ 9223372036854775807) (s4 : u.size ≤ 9223372036854775807) (s5 : v'.size ≤ 9223372036854775807) (s6 : k'.size ≤ 9223372036854775807) (s7 : n'.size ≤ 9223372036854775807) (s8 : m'.size ≤ 9223372036854775807) (s9 : u'.size ≤ 9223372036854775807) (s10 : u2.size ≤ 9223372036854775807) (s11 : x.size ≤ 9223372036854775807) (h : 1048576 < v.size + k.size + n.size + m.size + u.size + v'.size + k'.size + n'.size + m'.size + u'.size + u2.size + x.size) :
    Calls Try.prog 29 #[.string v, .string k, .string n, .string m, .string u, .string v', .string k', .string n', .string m', .string u', .string u2, .string x] w fun e w' => e = .returned (.bool false) ∧ w' = w := by
  go_enter Try.func29, Try.ntmps29
  go_wp2
  all_goals
    go_ret
    exact ⟨rfl, rfl⟩
set_option maxHeartbeats 4000000 in
theorem bytes29_yes (v k n m u v' k' n' m' u' u2 x : ByteArray) (w : World) (h : v.size + k.size + n.size + m.size + u.size + v'.size + k'.size + n'.size + m'.size + u'.size + u2.size + x.size ≤ 1048576) :
    Calls Try.prog 29 #[.string v, .string k, .string n, .string m, .string u, .string v', .string k', .string n', .string m', .string u', .string u2, .string x] w fun e w' => e = .returned (.bool true) ∧ w' = w := by
  go_enter Try.func29, Try.ntmps29
  go_wp2
  go_ret
  exact ⟨rfl, rfl⟩
set_option maxHeartbeats 4000000 in
theorem blind_group (v k n m u v' k' n' m' u' u2 x : ByteArray) (w : World) (hsz : v.size + k.size + n.size + m.size + u.size + v'.size + k'.size + n'.size + m'.size + u'.size + u2.size + x.size ≤ 1048576) (i : Nat) (hi : Lib.indexByte v.data.toList 47 = (i : Nat)) (hlt : i < v.size) :
    Calls Try.prog 7 #[.string v, .string k, .string n, .string m, .string u, .string v', .string k', .string n', .string m', .string u', .string u2, .string x] w fun e w' => e = .returned (.bool true) ∧ Below w.heap.size w w' := by
  have hv : v.size ≤ 4194304 := by omega
  have ho : v'.size ≤ 4194304 := by omega
  obtain ⟨A, hA⟩ : ∃ A, A = sameB v k n m v' k' n' m' := ⟨_, rfl⟩
  have Q1 : Hid (sameB v k n m v' k' n' m' = A) := hA.symm
  have Q2 : Hid _ := same_refl v k n m
  have Q3 : Hid _ := same_refl v' k' n' m'
  have Q4 : Hid (sameB v' k' n' m' v k n m = A) := (same_comm _ _ _ _ _ _ _ _).trans Q1.out
  have G : Hid (Plain.group (v.extract 0 (i + 1) ++ x).data.toList = Plain.group v.data.toList) := group_cut hi
  have hx : (v.extract 0 (i + 1) ++ x).size ≤ 4194304 := by rw [ByteArray.size_append, ByteArray.size_extract]; omega
  have V := fun w => slash_any v w (by omega)
  rw [hi] at V
  clear hi
  have Q7 : Hid (sameB (v.extract 0 (i + 1) ++ x) k n m v' k' n' m' = A) := (same_congr G.out k n m v' k' n' m').trans Q1.out
  have Q8 : Hid (sameB (v.extract 0 (i + 1) ++ x) k n m v k n m = true) := (same_congr G.out k n m v k n m).trans Q2.out
  have BR : Box ((w.alloc (.cells #[.string v, .string k, .string n, .string m, .string u] 33)).alloc (.cells #[.string v', .string k', .string n', .string m', .string u'] 33)) w.heap.size v k n m u := (Box.new _ _ _ _ _ _).alloc _
  have BO : Box ((w.alloc (.cells #[.string v, .string k, .string n, .string m, .string u] 33)).alloc (.cells #[.string v', .string k', .string n', .string m', .string u'] 33)) (w.heap.size + 1) v' k' n' m' u' := by
    have := Box.new (w.alloc (.cells #[.string v, .string k, .string n, .string m, .string u] 33)) v' k' n' m' u'
    simpa using this
  have BW : Below w.heap.size w ((w.alloc (.cells #[.string v, .string k, .string n, .string m, .string u] 33)).alloc (.cells #[.string v', .string k', .string n', .string m', .string u'] 33)) := ((Below.refl _ _).alloc (Nat.le_refl _) _).alloc (by simp) _
  have ZW : w.heap.size + 1 < ((w.alloc (.cells #[.string v, .string k, .string n, .string m, .string u] 33)).alloc (.cells #[.string v', .string k', .string n', .string m', .string u'] 33)).heap.size := by simp
  have HR : Hid _ := BR
  have HO : Hid _ := BO
  have HB : Hid _ := BW
  have HZ : Hid _ := ZW
  clear hA BR BO BW ZW
  go_enter Try.func7, Try.ntmps7
  go_wp2_with (first | (go_at_call 29; refine (bytes29_yes _ _ _ _ _ _ _ _ _ _ _ _ _ hsz).mono ?_; rintro e w9 ⟨rfl, hw⟩; subst w9) | (go_at_call 19; refine (text_small _ _ (by omega)).mono ?_; rintro e w9 ⟨rfl, hw⟩; subst w9))
  refine (same_is (u := u) (u' := u') Q1.out _ hv ho).mono ?_
  rintro e w1 ⟨rfl, hb⟩
  have R1 : Box w1 w.heap.size v k n m u := Box.later hb HR.out
  have O1 : Box w1 (w.heap.size + 1) v' k' n' m' u' := Box.later hb HO.out
  have B1 : Below w.heap.size w w1 := below_step HB.out hb
  have z1 : w.heap.size + 1 < w1.heap.size := Nat.lt_of_lt_of_le HZ.out hb.size
  clear hb HR HO HB HZ
  have r0 := R1.1
  have r1 := R1.2.1
  have r2 := R1.2.2.1
  have r3 := R1.2.2.2.1
  have r4 := R1.2.2.2.2
  have o0 := O1.1
  have o1 := O1.2.1
  have o2 := O1.2.2.1
  have o3 := O1.2.2.2.1
  have o4 := O1.2.2.2.2
  go_wp2_with fail
  refine (same_is (u := u) (u' := u) Q2.out _ hv hv).mono ?_
  rintro e w2 ⟨rfl, hb⟩
  have R2 : Box w2 w.heap.size v k n m u := Box.later hb R1
  have O2 : Box w2 (w.heap.size + 1) v' k' n' m' u' := Box.later hb O1
  have B2 : Below w.heap.size w w2 := below_step B1 hb
  have z2 : w.heap.size + 1 < w2.heap.size := Nat.lt_of_lt_of_le z1 hb.size
  clear hb R1 O1 B1 z1 r0 r1 r2 r3 r4 o0 o1 o2 o3 o4
  have r0 := R2.1
  have r1 := R2.2.1
  have r2 := R2.2.2.1
  have r3 := R2.2.2.2.1
  have r4 := R2.2.2.2.2
  have o0 := O2.1
  have o1 := O2.2.1
  have o2 := O2.2.2.1
  have o3 := O2.2.2.2.1
  have o4 := O2.2.2.2.2
  go_wp2_with fail
  refine (same_is (u := u') (u' := u') Q3.out _ ho ho).mono ?_
  rintro e w3 ⟨rfl, hb⟩
  have R3 : Box w3 w.heap.size v k n m u := Box.later hb R2
  have O3 : Box w3 (w.heap.size + 1) v' k' n' m' u' := Box.later hb O2
  have B3 : Below w.heap.size w w3 := below_step B2 hb
  have z3 : w.heap.size + 1 < w3.heap.size := Nat.lt_of_lt_of_le z2 hb.size
  clear hb R2 O2 B2 z2 r0 r1 r2 r3 r4 o0 o1 o2 o3 o4
  have r0 := R3.1
  have r1 := R3.2.1
  have r2 := R3.2.2.1
  have r3 := R3.2.2.2.1
  have r4 := R3.2.2.2.2
  have o0 := O3.1
  have o1 := O3.2.1
  have o2 := O3.2.2.1
  have o3 := O3.2.2.2.1
  have o4 := O3.2.2.2.2
  go_wp2_with fail
  refine (same_is (u := u') (u' := u) Q4.out _ ho hv).mono ?_
  rintro e w4 ⟨rfl, hb⟩
  have R4 : Box w4 w.heap.size v k n m u := Box.later hb R3
  have O4 : Box w4 (w.heap.size + 1) v' k' n' m' u' := Box.later hb O3
  have B4 : Below w.heap.size w w4 := below_step B3 hb
  have z4 : w.heap.size + 1 < w4.heap.size := Nat.lt_of_lt_of_le z3 hb.size
  clear hb R3 O3 B3 z3 r0 r1 r2 r3 r4 o0 o1 o2 o3 o4
  have r0 := R4.1
  have r1 := R4.2.1
  have r2 := R4.2.2.1
  have r3 := R4.2.2.2.1
  have r4 := R4.2.2.2.2
  have o0 := O4.1
  have o1 := O4.2.1
  have o2 := O4.2.2.1
  have o3 := O4.2.2.2.1
  have o4 := O4.2.2.2.2
  go_wp2_with fail
  refine (same_is (u := u2) (u' := u') Q1.out _ hv ho).mono ?_
  rintro e w5 ⟨rfl, hb⟩
  have R5 : Box w5 w.heap.size v k n m u := Box.later hb (R4.alloc _)
  have O5 : Box w5 (w.heap.size + 1) v' k' n' m' u' := Box.later hb (O4.alloc _)
  have X5 : Box w5 w4.heap.size v k n m u2 := Box.later hb (Box.new _ _ _ _ _ _)
  have B5 : Below w.heap.size w w5 := below_step (B4.alloc B4.size _) hb
  have z5 : w.heap.size + 1 < w5.heap.size := by have := hb.size; simp at this; omega
  clear hb R4 O4 B4 z4 r0 r1 r2 r3 r4 o0 o1 o2 o3 o4
  have r0 := R5.1
  have r1 := R5.2.1
  have r2 := R5.2.2.1
  have r3 := R5.2.2.2.1
  have r4 := R5.2.2.2.2
  have o0 := O5.1
  have o1 := O5.2.1
  have o2 := O5.2.2.1
  have o3 := O5.2.2.2.1
  have o4 := O5.2.2.2.2
  have y0 := X5.1
  have y1 := X5.2.1
  have y2 := X5.2.2.1
  have y3 := X5.2.2.2.1
  have y4 := X5.2.2.2.2
  go_wp2_with fail
  refine (same_is (u := u2) (u' := u) Q2.out _ hv hv).mono ?_
  rintro e w6 ⟨rfl, hb⟩
  have R6 : Box w6 w.heap.size v k n m u := Box.later hb R5
  have O6 : Box w6 (w.heap.size + 1) v' k' n' m' u' := Box.later hb O5
  have B6 : Below w.heap.size w w6 := below_step B5 hb
  have z6 : w.heap.size + 1 < w6.heap.size := Nat.lt_of_lt_of_le z5 hb.size
  clear hb R5 O5 X5 B5 z5 r0 r1 r2 r3 r4 o0 o1 o2 o3 o4 y0 y1 y2 y3 y4
  have r0 := R6.1
  have r1 := R6.2.1
  have r2 := R6.2.2.1
  have r3 := R6.2.2.2.1
  have r4 := R6.2.2.2.2
  have o0 := O6.1
  have o1 := O6.2.1
  have o2 := O6.2.2.1
  have o3 := O6.2.2.2.1
  have o4 := O6.2.2.2.2
  go_wp2_with (first | (go_at_call 30; refine (V _).mono ?_; rintro e w9 ⟨rfl, hw⟩; subst w9))
  refine (same_is (u := u) (u' := u') Q7.out _ hx ho).mono ?_
  rintro e w7 ⟨rfl, hb⟩
  have R7 : Box w7 w.heap.size v k n m u := Box.later hb (R6.alloc _)
  have O7 : Box w7 (w.heap.size + 1) v' k' n' m' u' := Box.later hb (O6.alloc _)
  have X7 : Box w7 w6.heap.size (v.extract 0 (i + 1) ++ x) k n m u := Box.later hb (Box.new _ _ _ _ _ _)
  have B7 : Below w.heap.size w w7 := below_step (B6.alloc B6.size _) hb
  have z7 : w.heap.size + 1 < w7.heap.size := by have := hb.size; simp at this; omega
  clear hb R6 O6 B6 z6 r0 r1 r2 r3 r4 o0 o1 o2 o3 o4
  have r0 := R7.1
  have r1 := R7.2.1
  have r2 := R7.2.2.1
  have r3 := R7.2.2.2.1
  have r4 := R7.2.2.2.2
  have o0 := O7.1
  have o1 := O7.2.1
  have o2 := O7.2.2.1
  have o3 := O7.2.2.2.1
  have o4 := O7.2.2.2.2
  have y0 := X7.1
  have y1 := X7.2.1
  have y2 := X7.2.2.1
  have y3 := X7.2.2.2.1
  have y4 := X7.2.2.2.2
  go_wp2_with fail
  refine (same_is (u := u) (u' := u) Q8.out _ hx hv).mono ?_
  rintro e w8 ⟨rfl, hb⟩
  have R8 : Box w8 w.heap.size v k n m u := Box.later hb R7
  have O8 : Box w8 (w.heap.size + 1) v' k' n' m' u' := Box.later hb O7
  have B8 : Below w.heap.size w w8 := below_step B7 hb
  have z8 : w.heap.size + 1 < w8.heap.size := Nat.lt_of_lt_of_le z7 hb.size
  clear hb R7 O7 X7 B7 z7 r0 r1 r2 r3 r4 o0 o1 o2 o3 o4 y0 y1 y2 y3 y4
  have r0 := R8.1
  have r1 := R8.2.1
  have r2 := R8.2.2.1
  have r3 := R8.2.2.2.1
  have r4 := R8.2.2.2.2
  have o0 := O8.1
  have o1 := O8.2.1
  have o2 := O8.2.2.1
  have o3 := O8.2.2.2.1
  have o4 := O8.2.2.2.2
  go_wp2
  go_ret
  exact ⟨rfl, B8⟩
set_option maxHeartbeats 4000000 in
theorem blind_core (v k n m u v' k' n' m' u' u2 x : ByteArray) (w : World) (hsz : v.size + k.size + n.size + m.size + u.size + v'.size + k'.size + n'.size + m'.size + u'.size + u2.size + x.size ≤ 1048576) (hi : Lib.indexByte v.data.toList 47 = -1) (hj : Lib.indexByte x.data.toList 47 = -1) :
    Calls Try.prog 7 #[.string v, .string k, .string n, .string m, .string u, .string v', .string k', .string n', .string m', .string u', .string u2, .string x] w fun e w' => e = .returned (.bool true) ∧ Below w.heap.size w w' := by
  have hv : v.size ≤ 4194304 := by omega
  have ho : v'.size ≤ 4194304 := by omega
  obtain ⟨A, hA⟩ : ∃ A, A = sameB v k n m v' k' n' m' := ⟨_, rfl⟩
  have Q1 : Hid (sameB v k n m v' k' n' m' = A) := hA.symm
  have Q2 : Hid _ := same_refl v k n m
  have Q3 : Hid _ := same_refl v' k' n' m'
  have Q4 : Hid (sameB v' k' n' m' v k n m = A) := (same_comm _ _ _ _ _ _ _ _).trans Q1.out
  have G : Hid (Plain.group x.data.toList = Plain.group v.data.toList) := group_both hi hj
  have hx : x.size ≤ 4194304 := by omega
  have V := fun w => slash_any v w (by omega)
  have Y := fun w => slash_any x w (by omega)
  rw [hi] at V
  rw [hj] at Y
  clear hi hj
  have Q7 : Hid (sameB x k n m v' k' n' m' = A) := (same_congr G.out k n m v' k' n' m').trans Q1.out
  have Q8 : Hid (sameB x k n m v k n m = true) := (same_congr G.out k n m v k n m).trans Q2.out
  have BR : Box ((w.alloc (.cells #[.string v, .string k, .string n, .string m, .string u] 33)).alloc (.cells #[.string v', .string k', .string n', .string m', .string u'] 33)) w.heap.size v k n m u := (Box.new _ _ _ _ _ _).alloc _
  have BO : Box ((w.alloc (.cells #[.string v, .string k, .string n, .string m, .string u] 33)).alloc (.cells #[.string v', .string k', .string n', .string m', .string u'] 33)) (w.heap.size + 1) v' k' n' m' u' := by
    have := Box.new (w.alloc (.cells #[.string v, .string k, .string n, .string m, .string u] 33)) v' k' n' m' u'
    simpa using this
  have BW : Below w.heap.size w ((w.alloc (.cells #[.string v, .string k, .string n, .string m, .string u] 33)).alloc (.cells #[.string v', .string k', .string n', .string m', .string u'] 33)) := ((Below.refl _ _).alloc (Nat.le_refl _) _).alloc (by simp) _
  have ZW : w.heap.size + 1 < ((w.alloc (.cells #[.string v, .string k, .string n, .string m, .string u] 33)).alloc (.cells #[.string v', .string k', .string n', .string m', .string u'] 33)).heap.size := by simp
  have HR : Hid _ := BR
  have HO : Hid _ := BO
  have HB : Hid _ := BW
  have HZ : Hid _ := ZW
  clear hA BR BO BW ZW
  go_enter Try.func7, Try.ntmps7
  go_wp2_with (first | (go_at_call 29; refine (bytes29_yes _ _ _ _ _ _ _ _ _ _ _ _ _ hsz).mono ?_; rintro e w9 ⟨rfl, hw⟩; subst w9) | (go_at_call 19; refine (text_small _ _ (by omega)).mono ?_; rintro e w9 ⟨rfl, hw⟩; subst w9))
  refine (same_is (u := u) (u' := u') Q1.out _ hv ho).mono ?_
  rintro e w1 ⟨rfl, hb⟩
  have R1 : Box w1 w.heap.size v k n m u := Box.later hb HR.out
  have O1 : Box w1 (w.heap.size + 1) v' k' n' m' u' := Box.later hb HO.out
  have B1 : Below w.heap.size w w1 := below_step HB.out hb
  have z1 : w.heap.size + 1 < w1.heap.size := Nat.lt_of_lt_of_le HZ.out hb.size
  clear hb HR HO HB HZ
  have r0 := R1.1
  have r1 := R1.2.1
  have r2 := R1.2.2.1
  have r3 := R1.2.2.2.1
  have r4 := R1.2.2.2.2
  have o0 := O1.1
  have o1 := O1.2.1
  have o2 := O1.2.2.1
  have o3 := O1.2.2.2.1
  have o4 := O1.2.2.2.2
  go_wp2_with fail
  refine (same_is (u := u) (u' := u) Q2.out _ hv hv).mono ?_
  rintro e w2 ⟨rfl, hb⟩
  have R2 : Box w2 w.heap.size v k n m u := Box.later hb R1
  have O2 : Box w2 (w.heap.size + 1) v' k' n' m' u' := Box.later hb O1
  have B2 : Below w.heap.size w w2 := below_step B1 hb
  have z2 : w.heap.size + 1 < w2.heap.size := Nat.lt_of_lt_of_le z1 hb.size
  clear hb R1 O1 B1 z1 r0 r1 r2 r3 r4 o0 o1 o2 o3 o4
  have r0 := R2.1
  have r1 := R2.2.1
  have r2 := R2.2.2.1
  have r3 := R2.2.2.2.1
  have r4 := R2.2.2.2.2
  have o0 := O2.1
  have o1 := O2.2.1
  have o2 := O2.2.2.1
  have o3 := O2.2.2.2.1
  have o4 := O2.2.2.2.2
  go_wp2_with fail
  refine (same_is (u := u') (u' := u') Q3.out _ ho ho).mono ?_
  rintro e w3 ⟨rfl, hb⟩
  have R3 : Box w3 w.heap.size v k n m u := Box.later hb R2
  have O3 : Box w3 (w.heap.size + 1) v' k' n' m' u' := Box.later hb O2
  have B3 : Below w.heap.size w w3 := below_step B2 hb
  have z3 : w.heap.size + 1 < w3.heap.size := Nat.lt_of_lt_of_le z2 hb.size
  clear hb R2 O2 B2 z2 r0 r1 r2 r3 r4 o0 o1 o2 o3 o4
  have r0 := R3.1
  have r1 := R3.2.1
  have r2 := R3.2.2.1
  have r3 := R3.2.2.2.1
  have r4 := R3.2.2.2.2
  have o0 := O3.1
  have o1 := O3.2.1
  have o2 := O3.2.2.1
  have o3 := O3.2.2.2.1
  have o4 := O3.2.2.2.2
  go_wp2_with fail
  refine (same_is (u := u') (u' := u) Q4.out _ ho hv).mono ?_
  rintro e w4 ⟨rfl, hb⟩
  have R4 : Box w4 w.heap.size v k n m u := Box.later hb R3
  have O4 : Box w4 (w.heap.size + 1) v' k' n' m' u' := Box.later hb O3
  have B4 : Below w.heap.size w w4 := below_step B3 hb
  have z4 : w.heap.size + 1 < w4.heap.size := Nat.lt_of_lt_of_le z3 hb.size
  clear hb R3 O3 B3 z3 r0 r1 r2 r3 r4 o0 o1 o2 o3 o4
  have r0 := R4.1
  have r1 := R4.2.1
  have r2 := R4.2.2.1
  have r3 := R4.2.2.2.1
  have r4 := R4.2.2.2.2
  have o0 := O4.1
  have o1 := O4.2.1
  have o2 := O4.2.2.1
  have o3 := O4.2.2.2.1
  have o4 := O4.2.2.2.2
  go_wp2_with fail
  refine (same_is (u := u2) (u' := u') Q1.out _ hv ho).mono ?_
  rintro e w5 ⟨rfl, hb⟩
  have R5 : Box w5 w.heap.size v k n m u := Box.later hb (R4.alloc _)
  have O5 : Box w5 (w.heap.size + 1) v' k' n' m' u' := Box.later hb (O4.alloc _)
  have X5 : Box w5 w4.heap.size v k n m u2 := Box.later hb (Box.new _ _ _ _ _ _)
  have B5 : Below w.heap.size w w5 := below_step (B4.alloc B4.size _) hb
  have z5 : w.heap.size + 1 < w5.heap.size := by have := hb.size; simp at this; omega
  clear hb R4 O4 B4 z4 r0 r1 r2 r3 r4 o0 o1 o2 o3 o4
  have r0 := R5.1
  have r1 := R5.2.1
  have r2 := R5.2.2.1
  have r3 := R5.2.2.2.1
  have r4 := R5.2.2.2.2
  have o0 := O5.1
  have o1 := O5.2.1
  have o2 := O5.2.2.1
  have o3 := O5.2.2.2.1
  have o4 := O5.2.2.2.2
  have y0 := X5.1
  have y1 := X5.2.1
  have y2 := X5.2.2.1
  have y3 := X5.2.2.2.1
  have y4 := X5.2.2.2.2
  go_wp2_with fail
  refine (same_is (u := u2) (u' := u) Q2.out _ hv hv).mono ?_
  rintro e w6 ⟨rfl, hb⟩
  have R6 : Box w6 w.heap.size v k n m u := Box.later hb R5
  have O6 : Box w6 (w.heap.size + 1) v' k' n' m' u' := Box.later hb O5
  have B6 : Below w.heap.size w w6 := below_step B5 hb
  have z6 : w.heap.size + 1 < w6.heap.size := Nat.lt_of_lt_of_le z5 hb.size
  clear hb R5 O5 X5 B5 z5 r0 r1 r2 r3 r4 o0 o1 o2 o3 o4 y0 y1 y2 y3 y4
  have r0 := R6.1
  have r1 := R6.2.1
  have r2 := R6.2.2.1
  have r3 := R6.2.2.2.1
  have r4 := R6.2.2.2.2
  have o0 := O6.1
  have o1 := O6.2.1
  have o2 := O6.2.2.1
  have o3 := O6.2.2.2.1
  have o4 := O6.2.2.2.2
  go_wp2_with (first | (go_at_call_of 30 (v); refine (V _).mono ?_; rintro e w9 ⟨rfl, hw⟩; subst w9) | (go_at_call_of 30 (x); refine (Y _).mono ?_; rintro e w9 ⟨rfl, hw⟩; subst w9))
  refine (same_is (u := u) (u' := u') Q7.out _ hx ho).mono ?_
  rintro e w7 ⟨rfl, hb⟩
  have R7 : Box w7 w.heap.size v k n m u := Box.later hb (R6.alloc _)
  have O7 : Box w7 (w.heap.size + 1) v' k' n' m' u' := Box.later hb (O6.alloc _)
  have X7 : Box w7 w6.heap.size x k n m u := Box.later hb (Box.new _ _ _ _ _ _)
  have B7 : Below w.heap.size w w7 := below_step (B6.alloc B6.size _) hb
  have z7 : w.heap.size + 1 < w7.heap.size := by have := hb.size; simp at this; omega
  clear hb R6 O6 B6 z6 r0 r1 r2 r3 r4 o0 o1 o2 o3 o4
  have r0 := R7.1
  have r1 := R7.2.1
  have r2 := R7.2.2.1
  have r3 := R7.2.2.2.1
  have r4 := R7.2.2.2.2
  have o0 := O7.1
  have o1 := O7.2.1
  have o2 := O7.2.2.1
  have o3 := O7.2.2.2.1
  have o4 := O7.2.2.2.2
  have y0 := X7.1
  have y1 := X7.2.1
  have y2 := X7.2.2.1
  have y3 := X7.2.2.2.1
  have y4 := X7.2.2.2.2
  go_wp2_with fail
  refine (same_is (u := u) (u' := u) Q8.out _ hx hv).mono ?_
  rintro e w8 ⟨rfl, hb⟩
  have R8 : Box w8 w.heap.size v k n m u := Box.later hb R7
  have O8 : Box w8 (w.heap.size + 1) v' k' n' m' u' := Box.later hb O7
  have B8 : Below w.heap.size w w8 := below_step B7 hb
  have z8 : w.heap.size + 1 < w8.heap.size := Nat.lt_of_lt_of_le z7 hb.size
  clear hb R7 O7 X7 B7 z7 r0 r1 r2 r3 r4 o0 o1 o2 o3 o4 y0 y1 y2 y3 y4
  have r0 := R8.1
  have r1 := R8.2.1
  have r2 := R8.2.2.1
  have r3 := R8.2.2.2.1
  have r4 := R8.2.2.2.2
  have o0 := O8.1
  have o1 := O8.2.1
  have o2 := O8.2.2.1
  have o3 := O8.2.2.2.1
  have o4 := O8.2.2.2.2
  go_wp2
  go_ret
  exact ⟨rfl, B8⟩
set_option maxHeartbeats 4000000 in
theorem blind_same (v k n m u v' k' n' m' u' u2 x : ByteArray) (w : World) (hsz : v.size + k.size + n.size + m.size + u.size + v'.size + k'.size + n'.size + m'.size + u'.size + u2.size + x.size ≤ 1048576) (i : Nat) (hi : Lib.indexByte v.data.toList 47 = -1) (hj : Lib.indexByte x.data.toList 47 = (i : Nat)) :
    Calls Try.prog 7 #[.string v, .string k, .string n, .string m, .string u, .string v', .string k', .string n', .string m', .string u', .string u2, .string x] w fun e w' => e = .returned (.bool true) ∧ Below w.heap.size w w' := by
  have hv : v.size ≤ 4194304 := by omega
  have ho : v'.size ≤ 4194304 := by omega
  obtain ⟨A, hA⟩ : ∃ A, A = sameB v k n m v' k' n' m' := ⟨_, rfl⟩
  have Q1 : Hid (sameB v k n m v' k' n' m' = A) := hA.symm
  have Q2 : Hid _ := same_refl v k n m
  have Q3 : Hid _ := same_refl v' k' n' m'
  have Q4 : Hid (sameB v' k' n' m' v k n m = A) := (same_comm _ _ _ _ _ _ _ _).trans Q1.out
  have G : Hid (Plain.group v.data.toList = Plain.group v.data.toList) := rfl
  have hx : v.size ≤ 4194304 := by omega
  have V := fun w => slash_any v w (by omega)
  have Y := fun w => slash_any x w (by omega)
  rw [hi] at V
  rw [hj] at Y
  clear hi hj
  have Q7 : Hid (sameB v k n m v' k' n' m' = A) := (same_congr G.out k n m v' k' n' m').trans Q1.out
  have Q8 : Hid (sameB v k n m v k n m = true) := (same_congr G.out k n m v k n m).trans Q2.out
  have BR : Box ((w.alloc (.cells #[.string v, .string k, .string n, .string m, .string u] 33)).alloc (.cells #[.string v', .string k', .string n', .string m', .string u'] 33)) w.heap.size v k n m u := (Box.new _ _ _ _ _ _).alloc _
  have BO : Box ((w.alloc (.cells #[.string v, .string k, .string n, .string m, .string u] 33)).alloc (.cells #[.string v', .string k', .string n', .string m', .string u'] 33)) (w.heap.size + 1) v' k' n' m' u' := by
    have := Box.new (w.alloc (.cells #[.string v, .string k, .string n, .string m, .string u] 33)) v' k' n' m' u'
    simpa using this
  have BW : Below w.heap.size w ((w.alloc (.cells #[.string v, .string k, .string n, .string m, .string u] 33)).alloc (.cells #[.string v', .string k', .string n', .string m', .string u'] 33)) := ((Below.refl _ _).alloc (Nat.le_refl _) _).alloc (by simp) _
  have ZW : w.heap.size + 1 < ((w.alloc (.cells #[.string v, .string k, .string n, .string m, .string u] 33)).alloc (.cells #[.string v', .string k', .string n', .string m', .string u'] 33)).heap.size := by simp
  have HR : Hid _ := BR
  have HO : Hid _ := BO
  have HB : Hid _ := BW
  have HZ : Hid _ := ZW
  clear hA BR BO BW ZW
  go_enter Try.func7, Try.ntmps7
  go_wp2_with (first | (go_at_call 29; refine (bytes29_yes _ _ _ _ _ _ _ _ _ _ _ _ _ hsz).mono ?_; rintro e w9 ⟨rfl, hw⟩; subst w9) | (go_at_call 19; refine (text_small _ _ (by omega)).mono ?_; rintro e w9 ⟨rfl, hw⟩; subst w9))
  refine (same_is (u := u) (u' := u') Q1.out _ hv ho).mono ?_
  rintro e w1 ⟨rfl, hb⟩
  have R1 : Box w1 w.heap.size v k n m u := Box.later hb HR.out
  have O1 : Box w1 (w.heap.size + 1) v' k' n' m' u' := Box.later hb HO.out
  have B1 : Below w.heap.size w w1 := below_step HB.out hb
  have z1 : w.heap.size + 1 < w1.heap.size := Nat.lt_of_lt_of_le HZ.out hb.size
  clear hb HR HO HB HZ
  have r0 := R1.1
  have r1 := R1.2.1
  have r2 := R1.2.2.1
  have r3 := R1.2.2.2.1
  have r4 := R1.2.2.2.2
  have o0 := O1.1
  have o1 := O1.2.1
  have o2 := O1.2.2.1
  have o3 := O1.2.2.2.1
  have o4 := O1.2.2.2.2
  go_wp2_with fail
  refine (same_is (u := u) (u' := u) Q2.out _ hv hv).mono ?_
  rintro e w2 ⟨rfl, hb⟩
  have R2 : Box w2 w.heap.size v k n m u := Box.later hb R1
  have O2 : Box w2 (w.heap.size + 1) v' k' n' m' u' := Box.later hb O1
  have B2 : Below w.heap.size w w2 := below_step B1 hb
  have z2 : w.heap.size + 1 < w2.heap.size := Nat.lt_of_lt_of_le z1 hb.size
  clear hb R1 O1 B1 z1 r0 r1 r2 r3 r4 o0 o1 o2 o3 o4
  have r0 := R2.1
  have r1 := R2.2.1
  have r2 := R2.2.2.1
  have r3 := R2.2.2.2.1
  have r4 := R2.2.2.2.2
  have o0 := O2.1
  have o1 := O2.2.1
  have o2 := O2.2.2.1
  have o3 := O2.2.2.2.1
  have o4 := O2.2.2.2.2
  go_wp2_with fail
  refine (same_is (u := u') (u' := u') Q3.out _ ho ho).mono ?_
  rintro e w3 ⟨rfl, hb⟩
  have R3 : Box w3 w.heap.size v k n m u := Box.later hb R2
  have O3 : Box w3 (w.heap.size + 1) v' k' n' m' u' := Box.later hb O2
  have B3 : Below w.heap.size w w3 := below_step B2 hb
  have z3 : w.heap.size + 1 < w3.heap.size := Nat.lt_of_lt_of_le z2 hb.size
  clear hb R2 O2 B2 z2 r0 r1 r2 r3 r4 o0 o1 o2 o3 o4
  have r0 := R3.1
  have r1 := R3.2.1
  have r2 := R3.2.2.1
  have r3 := R3.2.2.2.1
  have r4 := R3.2.2.2.2
  have o0 := O3.1
  have o1 := O3.2.1
  have o2 := O3.2.2.1
  have o3 := O3.2.2.2.1
  have o4 := O3.2.2.2.2
  go_wp2_with fail
  refine (same_is (u := u') (u' := u) Q4.out _ ho hv).mono ?_
  rintro e w4 ⟨rfl, hb⟩
  have R4 : Box w4 w.heap.size v k n m u := Box.later hb R3
  have O4 : Box w4 (w.heap.size + 1) v' k' n' m' u' := Box.later hb O3
  have B4 : Below w.heap.size w w4 := below_step B3 hb
  have z4 : w.heap.size + 1 < w4.heap.size := Nat.lt_of_lt_of_le z3 hb.size
  clear hb R3 O3 B3 z3 r0 r1 r2 r3 r4 o0 o1 o2 o3 o4
  have r0 := R4.1
  have r1 := R4.2.1
  have r2 := R4.2.2.1
  have r3 := R4.2.2.2.1
  have r4 := R4.2.2.2.2
  have o0 := O4.1
  have o1 := O4.2.1
  have o2 := O4.2.2.1
  have o3 := O4.2.2.2.1
  have o4 := O4.2.2.2.2
  go_wp2_with fail
  refine (same_is (u := u2) (u' := u') Q1.out _ hv ho).mono ?_
  rintro e w5 ⟨rfl, hb⟩
  have R5 : Box w5 w.heap.size v k n m u := Box.later hb (R4.alloc _)
  have O5 : Box w5 (w.heap.size + 1) v' k' n' m' u' := Box.later hb (O4.alloc _)
  have X5 : Box w5 w4.heap.size v k n m u2 := Box.later hb (Box.new _ _ _ _ _ _)
  have B5 : Below w.heap.size w w5 := below_step (B4.alloc B4.size _) hb
  have z5 : w.heap.size + 1 < w5.heap.size := by have := hb.size; simp at this; omega
  clear hb R4 O4 B4 z4 r0 r1 r2 r3 r4 o0 o1 o2 o3 o4
  have r0 := R5.1
  have r1 := R5.2.1
  have r2 := R5.2.2.1
  have r3 := R5.2.2.2.1
  have r4 := R5.2.2.2.2
  have o0 := O5.1
  have o1 := O5.2.1
  have o2 := O5.2.2.1
  have o3 := O5.2.2.2.1
  have o4 := O5.2.2.2.2
  have y0 := X5.1
  have y1 := X5.2.1
  have y2 := X5.2.2.1
  have y3 := X5.2.2.2.1
  have y4 := X5.2.2.2.2
  go_wp2_with fail
  refine (same_is (u := u2) (u' := u) Q2.out _ hv hv).mono ?_
  rintro e w6 ⟨rfl, hb⟩
  have R6 : Box w6 w.heap.size v k n m u := Box.later hb R5
  have O6 : Box w6 (w.heap.size + 1) v' k' n' m' u' := Box.later hb O5
  have B6 : Below w.heap.size w w6 := below_step B5 hb
  have z6 : w.heap.size + 1 < w6.heap.size := Nat.lt_of_lt_of_le z5 hb.size
  clear hb R5 O5 X5 B5 z5 r0 r1 r2 r3 r4 o0 o1 o2 o3 o4 y0 y1 y2 y3 y4
  have r0 := R6.1
  have r1 := R6.2.1
  have r2 := R6.2.2.1
  have r3 := R6.2.2.2.1
  have r4 := R6.2.2.2.2
  have o0 := O6.1
  have o1 := O6.2.1
  have o2 := O6.2.2.1
  have o3 := O6.2.2.2.1
  have o4 := O6.2.2.2.2
  go_wp2_with (first | (go_at_call_of 30 (v); refine (V _).mono ?_; rintro e w9 ⟨rfl, hw⟩; subst w9) | (go_at_call_of 30 (x); refine (Y _).mono ?_; rintro e w9 ⟨rfl, hw⟩; subst w9))
  refine (same_is (u := u) (u' := u') Q7.out _ hx ho).mono ?_
  rintro e w7 ⟨rfl, hb⟩
  have R7 : Box w7 w.heap.size v k n m u := Box.later hb (R6.alloc _)
  have O7 : Box w7 (w.heap.size + 1) v' k' n' m' u' := Box.later hb (O6.alloc _)
  have X7 : Box w7 w6.heap.size v k n m u := Box.later hb (Box.new _ _ _ _ _ _)
  have B7 : Below w.heap.size w w7 := below_step (B6.alloc B6.size _) hb
  have z7 : w.heap.size + 1 < w7.heap.size := by have := hb.size; simp at this; omega
  clear hb R6 O6 B6 z6 r0 r1 r2 r3 r4 o0 o1 o2 o3 o4
  have r0 := R7.1
  have r1 := R7.2.1
  have r2 := R7.2.2.1
  have r3 := R7.2.2.2.1
  have r4 := R7.2.2.2.2
  have o0 := O7.1
  have o1 := O7.2.1
  have o2 := O7.2.2.1
  have o3 := O7.2.2.2.1
  have o4 := O7.2.2.2.2
  have y0 := X7.1
  have y1 := X7.2.1
  have y2 := X7.2.2.1
  have y3 := X7.2.2.2.1
  have y4 := X7.2.2.2.2
  go_wp2_with fail
  refine (same_is (u := u) (u' := u) Q8.out _ hx hv).mono ?_
  rintro e w8 ⟨rfl, hb⟩
  have R8 : Box w8 w.heap.size v k n m u := Box.later hb R7
  have O8 : Box w8 (w.heap.size + 1) v' k' n' m' u' := Box.later hb O7
  have B8 : Below w.heap.size w w8 := below_step B7 hb
  have z8 : w.heap.size + 1 < w8.heap.size := Nat.lt_of_lt_of_le z7 hb.size
  clear hb R7 O7 X7 B7 z7 r0 r1 r2 r3 r4 o0 o1 o2 o3 o4 y0 y1 y2 y3 y4
  have r0 := R8.1
  have r1 := R8.2.1
  have r2 := R8.2.2.1
  have r3 := R8.2.2.2.1
  have r4 := R8.2.2.2.2
  have o0 := O8.1
  have o1 := O8.2.1
  have o2 := O8.2.2.1
  have o3 := O8.2.2.2.1
  have o4 := O8.2.2.2.2
  go_wp2
  go_ret
  exact ⟨rfl, B8⟩
end Go.Proofs.Qxb6605665a
