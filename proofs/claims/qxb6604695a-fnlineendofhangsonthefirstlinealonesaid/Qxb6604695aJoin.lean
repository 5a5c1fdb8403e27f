import Derived.Test.Qxb6604695aFirst
namespace Go.Proofs.Qxb6604695a
open Go.RowKit

/-- From the address on (where there is one) the cells hold the numbers. -/
def Cells (w : World) (ao : Option Addr) (ys : List Int) : Prop := ∀ ad, ao = some ad → ∀ j u, (ys.map (Value.int .u8))[j]? = some u → w.cell? (ad.add j) = some u
theorem cells_later {w w1 : World} {ao : Option Addr} {ys : List Int} (hb : Below w.heap.size w w1) (h : Cells w ao ys) : Cells w1 ao ys := fun ad e j u hu => cell_later hb (h ad e j u hu)
theorem cells_of_row {w : World} {B : Nat} {ys : List Int} (h : Row w B ys) : Cells w (some ⟨B, 0, none⟩) ys := by
  intro ad e j u hu
  obtain rfl := Option.some.inj e
  rw [List.getElem?_map] at hu
  obtain ⟨x, hx, rfl⟩ := Option.map_eq_some_iff.1 hu
  have hj : j < ys.length := (List.getElem?_eq_some_iff.1 hx).1
  rw [Go.WideShapes.add_plain, Nat.zero_add, h j hj, List.getD_eq_getElem?_getD, hx]
  rfl
theorem cells_none (w : World) : Cells w none [] := fun ad e => by cases e
theorem row_of_own {w : World} {base g n cap : Nat} {ys : List Int} (h : w.ownsRow base 5 1 (.slice (some ⟨g, 0, none⟩) n cap) n (ys.map (Value.int .u8))) : Row w g ys ∧ ys.length = n := by
  have hl : ys.length = n := by have := h.1; simpa using this
  refine ⟨fun i hi => ?_, hl⟩
  rw [h.cellAt i (by omega), List.getElem?_map, List.getElem?_eq_getElem hi, List.getD_eq_getElem?_getD, List.getElem?_eq_getElem hi]
  rfl

/-- What joinBytes leaves: a new row that holds zs. -/
def Joined (w w' : World) (n : Nat) (zs : List Int) : Prop := Row w' w.heap.size zs ∧ zs.length = n ∧ Below w.heap.size w w'

set_option maxHeartbeats 1000000 in
theorem join_no (a0 a1 : Option Addr) (n0 c0 n1 c1 : Nat) (ys ts : List Int) (w : World) (hn0 : n0 ≤ 1048576) (hn1 : n1 ≤ 1048576) (hl0 : ys.length = n0) (hl1 : ts.length = n1)
    (hc0 : Cells w a0 ys) (hc1 : Cells w a1 ts) (hz0 : a0 = none → n0 = 0 ∧ c0 = 0) (hz1 : a1 = none → n1 = 0 ∧ c1 = 0) :
    Calls Try.prog 11 #[.slice a0 n0 c0, .bool false, .slice a1 n1 c1] w fun e w' => e = .returned (.slice (some ⟨w.heap.size, 0, none⟩) (n0 + n1) (n0 + n1 + 1)) ∧ Joined w w' (n0 + n1) (ys ++ ts) := by
  obtain ⟨i0, hi, iz0, iz1, iz2⟩ := info_parts info5
  have hb2 : i0.bytes * (n0 + n1 + 1) ≤ 281474976710656 := by rw [iz2]; omega
  have hb3 : n0 + n1 + 1 ≤ maxLen := by unfold maxLen; omega
  have L0 : (ys.map (Value.int .u8)).length = n0 * 1 := by simp [hl0]
  have L1 : (ts.map (Value.int .u8)).length = n1 * 1 := by simp [hl1]
  have HL0 : Hid _ := L0
  have HL1 : Hid _ := L1
  have HC0 : Hid _ := hc0
  have HC1 : Hid _ := hc1
  have HZ0 : Hid _ := hz0
  have HZ1 : Hid _ := hz1
  obtain ⟨V0, e0⟩ : ∃ V, V = ys.map (Value.int .u8) := ⟨_, rfl⟩
  obtain ⟨V1, e1⟩ : ∃ V, V = ts.map (Value.int .u8) := ⟨_, rfl⟩
  have O0 : ∀ u ∈ V0, u.oneCell' = true := by rw [e0]; exact ints_oneCell _ _
  have O1 : ∀ u ∈ V1, u.oneCell' = true := by rw [e1]; exact ints_oneCell _ _
  have E0 : Hid _ := e0
  have E1 : Hid _ := e1
  have HO0 : Hid _ := O0
  have HO1 : Hid _ := O1
  clear hc0 hc1 hz0 hz1 L0 L1 hl0 hl1 e0 e1 O0 O1
  go_enter Try.func11, Try.ntmps11
  go_wp2_with (at_make; refine wpList_make_own _ rfl _ _ 22 rfl w.heap.size 5 i0 (.int .u8 0) 1 Try.underlying22 hi iz0 iz1 .i64 .i64 _ (n0 + n1 + 1) rfl rfl (by omega) hb2 hb3 (Nat.le_refl _) ?_)
  intro w1 hown1 hg1
  have hbel1 : Below w.heap.size w w1 := (Below.refl _ _).grown hg1 (Nat.le_refl _) (fun k h => by cases h)
  clear hg1
  go_wp2_with (at_builtin; refine wpList_append_fits_any _ rfl (.tmp 15) (.tmp 16) 22 rfl w.heap.size 5 i0 1 Try.underlying22 hi iz1 w.heap.size 0 (n0 + n1 + 1) [] rfl hown1 a0 n0 c0 V0 rfl (by rw [E0.out]; exact HL0.out) HZ0.out (by rw [E0.out]; exact cells_later hbel1 HC0.out) HO0.out (by omega) ?_)
  intro w2 hown2 hg2
  have hbel2 : Below w.heap.size w w2 := hbel1.grown hg2 hbel1.size (fun k h => by cases h; exact Nat.le_refl _)
  clear hg2 hown1 hbel1
  go_wp2_with (at_builtin; refine wpList_append_fits_any _ rfl (.tmp 22) (.tmp 23) 22 rfl w.heap.size 5 i0 1 Try.underlying22 hi iz1 w.heap.size n0 (n0 + n1 + 1) V0 rfl hown2 a1 n1 c1 V1 rfl (by rw [E1.out]; exact HL1.out) HZ1.out (by rw [E1.out]; exact cells_later hbel2 HC1.out) HO1.out (by omega) ?_)
  intro w3 hown3 hg3
  have hbel3 : Below w.heap.size w w3 := hbel2.grown hg3 hbel2.size (fun k h => by cases h; exact Nat.le_refl _)
  rw [E0.out, E1.out, ← List.map_append] at hown3
  have R := row_of_own hown3
  have J : Joined w w3 (n0 + n1) (ys ++ ts) := ⟨R.1, R.2, hbel3⟩
  clear hg3 hown2 hbel2 hown3 R hbel3 hi iz0 iz1 iz2 hb2 hb3
  go_wp2
  go_ret
  exact ⟨rfl, J⟩

set_option maxHeartbeats 1000000 in
theorem join_lf (a0 a1 : Option Addr) (n0 c0 n1 c1 : Nat) (ys ts : List Int) (w : World) (hn0 : n0 ≤ 1048576) (hn1 : n1 ≤ 1048576) (hl0 : ys.length = n0) (hl1 : ts.length = n1)
    (hc0 : Cells w a0 ys) (hc1 : Cells w a1 ts) (hz0 : a0 = none → n0 = 0 ∧ c0 = 0) (hz1 : a1 = none → n1 = 0 ∧ c1 = 0) :
    Calls Try.prog 11 #[.slice a0 n0 c0, .bool true, .slice a1 n1 c1] w fun e w' => e = .returned (.slice (some ⟨w.heap.size, 0, none⟩) (n0 + 1 + n1) (n0 + n1 + 1)) ∧ Joined w w' (n0 + 1 + n1) (ys ++ 10 :: ts) := by
  obtain ⟨i0, hi, iz0, iz1, iz2⟩ := info_parts info5
  have hb2 : i0.bytes * (n0 + n1 + 1) ≤ 281474976710656 := by rw [iz2]; omega
  have hb3 : n0 + n1 + 1 ≤ maxLen := by unfold maxLen; omega
  have L0 : (ys.map (Value.int .u8)).length = n0 * 1 := by simp [hl0]
  have L1 : (ts.map (Value.int .u8)).length = n1 * 1 := by simp [hl1]
  have HL0 : Hid _ := L0
  have HL1 : Hid _ := L1
  have HC0 : Hid _ := hc0
  have HC1 : Hid _ := hc1
  have HZ0 : Hid _ := hz0
  have HZ1 : Hid _ := hz1
  obtain ⟨V0, e0⟩ : ∃ V, V = ys.map (Value.int .u8) := ⟨_, rfl⟩
  obtain ⟨V1, e1⟩ : ∃ V, V = ts.map (Value.int .u8) := ⟨_, rfl⟩
  have O0 : ∀ u ∈ V0, u.oneCell' = true := by rw [e0]; exact ints_oneCell _ _
  have O1 : ∀ u ∈ V1, u.oneCell' = true := by rw [e1]; exact ints_oneCell _ _
  have E0 : Hid _ := e0
  have E1 : Hid _ := e1
  have HO0 : Hid _ := O0
  have HO1 : Hid _ := O1
  clear hc0 hc1 hz0 hz1 L0 L1 hl0 hl1 e0 e1 O0 O1
  go_enter Try.func11, Try.ntmps11
  go_wp2_with (at_make; refine wpList_make_own _ rfl _ _ 22 rfl w.heap.size 5 i0 (.int .u8 0) 1 Try.underlying22 hi iz0 iz1 .i64 .i64 _ (n0 + n1 + 1) rfl rfl (by omega) hb2 hb3 (Nat.le_refl _) ?_)
  intro w1 hown1 hg1
  have hbel1 : Below w.heap.size w w1 := (Below.refl _ _).grown hg1 (Nat.le_refl _) (fun k h => by cases h)
  clear hg1
  go_wp2_with (at_builtin; refine wpList_append_fits_any _ rfl (.tmp 15) (.tmp 16) 22 rfl w.heap.size 5 i0 1 Try.underlying22 hi iz1 w.heap.size 0 (n0 + n1 + 1) [] rfl hown1 a0 n0 c0 V0 rfl (by rw [E0.out]; exact HL0.out) HZ0.out (by rw [E0.out]; exact cells_later hbel1 HC0.out) HO0.out (by omega) ?_)
  intro w2 hown2 hg2
  have hbel2 : Below w.heap.size w w2 := hbel1.grown hg2 hbel1.size (fun k h => by cases h; exact Nat.le_refl _)
  clear hg2 hown1 hbel1
  have hlt2 : w.heap.size ≤ w2.heap.size := hbel2.size
  go_wp2_with (at_builtin; refine wpList_append_fits_any _ rfl (.tmp 19) (.tmp 20) 22 rfl w.heap.size 5 i0 1 Try.underlying22 hi iz1 w.heap.size n0 (n0 + n1 + 1) V0 rfl (hown2.alloc _) (some ⟨w2.heap.size, 0, none⟩) 1 1 [.int .u8 10] rfl rfl (fun h => by cases h) ?hcell ?hone (by omega) ?_)
  case hcell =>
    intro ad e j u hu
    obtain rfl := Option.some.inj e
    exact cell_one_new _ _ _ j u hu
  case hone => intro u hu; simp at hu; subst hu; rfl
  intro w3 hown3 hg3
  have hbel3 : Below w.heap.size w w3 := (hbel2.alloc hbel2.size _).grown hg3 (by simp; omega) (fun k h => by cases h; exact Nat.le_refl _)
  clear hg3 hown2 hbel2
  go_wp2_with (at_builtin; refine wpList_append_fits_any _ rfl (.tmp 22) (.tmp 23) 22 rfl w.heap.size 5 i0 1 Try.underlying22 hi iz1 w.heap.size (n0 + 1) (n0 + n1 + 1) (V0 ++ [.int .u8 10]) rfl hown3 a1 n1 c1 V1 rfl (by rw [E1.out]; exact HL1.out) HZ1.out (by rw [E1.out]; exact cells_later hbel3 HC1.out) HO1.out (by omega) ?_)
  intro w4 hown4 hg4
  have hbel4 : Below w.heap.size w w4 := hbel3.grown hg4 hbel3.size (fun k h => by cases h; exact Nat.le_refl _)
  rw [E0.out, E1.out, show ys.map (Value.int .u8) ++ Value.int .u8 10 :: ts.map (Value.int .u8) = (ys ++ 10 :: ts).map (Value.int .u8) by simp] at hown4
  have R := row_of_own hown4
  have J : Joined w w4 (n0 + 1 + n1) (ys ++ 10 :: ts) := ⟨R.1, R.2, hbel4⟩
  clear hg4 hown3 hbel3 hown4 R hbel4 hi iz0 iz1 iz2 hb2 hb3
  go_wp2
  go_ret
  exact ⟨rfl, J⟩
end Go.Proofs.Qxb6604695a
