import Derived.Test.Qxb6604695aRows
import Derived.Test.Qxb6604695aEnds
import Derived.WalkKit
import Derived.ProofKit
import Derived.OpenShut
import Derived.ShutString
import Derived.ChangeOld
import Derived.Below
import Derived.Deep.RegionWith
namespace Go.Proofs.Qxb6604695a.fnLineEndOfHangsOnTheFirstLineAlone
open Go.ChangeShapes Go.WideShapes Go.ChangeAt Go.RowKit
open Go.ChangeMaps (open_string shut_string)
set_option linter.unusedVariables false

theorem own : ownKnob Try.prog.godebug = none := by kernel_rfl
theorem laidOut : laidOutB Try.prog = true := by kernel_rfl

/-- WHAT THE WALK IS TOLD OF A SLICE OF INTEGERS THAT CAME IN: it is nil; or it leads to a row of 'cap' cells, the numbers 'zs' (the first 'len' are its elements, the rest its spare room), each fitting its kind. -/
def IsRow (k : IntKind) (w : World) (a : Option Addr) (len cap : Nat) (zs : List Int) : Prop :=
  (a = none ∧ len = 0 ∧ cap = 0 ∧ zs = []) ∨
  ∃ x, a = some x ∧ len ≤ cap ∧ cap ≤ maxLen ∧ zs.length = cap ∧ (∀ i, i < zs.length → w.cell? (x.add i) = some (.int k (zs.getD i 0))) ∧ ∀ n ∈ zs, (Lit.int k n).wf = true


/-! ### Plain: lists -/
theorem getD_left {ys ts : List Int} {j : Nat} (h : j < ys.length) : (ys ++ ts).getD j 0 = ys.getD j 0 := by
  rw [List.getD_eq_getElem?_getD, List.getElem?_append_left h, List.getD_eq_getElem?_getD]
theorem lf_join {ys ts : List Int} (h : NoLF ys) : LFAt (ys ++ 10 :: ts) ys.length := by
  refine ⟨by simp, ?_, fun j hj => ?_⟩
  · rw [List.getD_eq_getElem?_getD, List.getElem?_append_right (Nat.le_refl _)]; simp
  · rw [getD_left hj]; exact h j hj
theorem lf_keep {ys ts : List Int} {p : Nat} (h : LFAt ys p) : LFAt (ys ++ ts) p := by
  obtain ⟨h1, h2, h3⟩ := h
  exact ⟨by rw [List.length_append]; omega, by rw [getD_left h1]; exact h2, fun j hj => by rw [getD_left (by omega)]; exact h3 j hj⟩
theorem bytes_join {ys ts : List Int} (h0 : Bytes ys) (h1 : Bytes ts) : Bytes (ys ++ 10 :: ts) := by
  intro x hx
  rcases List.mem_append.1 hx with q | q
  · exact h0 x q
  · rcases List.mem_cons.1 q with rfl | q
    · omega
    · exact h1 x q
theorem bytes_two {ys ts : List Int} (h0 : Bytes ys) (h1 : Bytes ts) : Bytes (ys ++ ts) := by
  intro x hx
  rcases List.mem_append.1 hx with q | q
  · exact h0 x q
  · exact h1 x q
theorem row_later {w w1 : World} {B : Nat} {ys : List Int} (hb : Below w.heap.size w w1) (h : Row w B ys) : Row w1 B ys := fun i hi => cell_later hb (h i hi)
theorem below_drewN {B : Nat} {w w1 : World} (h : Below B w w1) (k : Nat) : Below B w (w1.drewN k) := ⟨h.os, h.tape, h.output, h.size, h.block⟩
theorem below_step {w w1 w2 : World} (h : Below w.heap.size w w1) (k : Below w1.heap.size w1 w2) : Below w.heap.size w w2 := h.trans (k.mono h.size)

/-! ### zzBytes -/
theorem bytes_big0 (a b : Option Addr) (n c m d : Nat) (w : World) (h : 1048576 < n) :
    Calls Try.prog 9 #[.slice a n c, .slice b m d] w fun e w' => e = .returned (.bool false) ∧ w' = w := by
  go_enter Try.func9, Try.ntmps9
  go_wp2
  go_ret
  exact ⟨rfl, rfl⟩
theorem bytes_big1 (a b : Option Addr) (n c m d : Nat) (w : World) (h0 : n ≤ 1048576) (h : 1048576 < m) :
    Calls Try.prog 9 #[.slice a n c, .slice b m d] w fun e w' => e = .returned (.bool false) ∧ w' = w := by
  go_enter Try.func9, Try.ntmps9
  go_wp2
  go_ret
  exact ⟨rfl, rfl⟩
theorem bytes_big2 (a b : Option Addr) (n c m d : Nat) (w : World) (h0 : n ≤ 1048576) (h1 : m ≤ 1048576) (h : 1048576 < n + m) :
    Calls Try.prog 9 #[.slice a n c, .slice b m d] w fun e w' => e = .returned (.bool false) ∧ w' = w := by
  go_enter Try.func9, Try.ntmps9
  go_wp2
  go_ret
  exact ⟨rfl, rfl⟩
theorem bytes_yes (a b : Option Addr) (n c m d : Nat) (w : World) (h : n + m ≤ 1048576) :
    Calls Try.prog 9 #[.slice a n c, .slice b m d] w fun e w' => e = .returned (.bool true) ∧ w' = w := by
  go_enter Try.func9, Try.ntmps9
  go_wp2
  go_ret
  exact ⟨rfl, rfl⟩
theorem bytes_no (a b : Option Addr) (n c m d : Nat) (w : World) (h : 1048576 < n + m) :
    Calls Try.prog 9 #[.slice a n c, .slice b m d] w fun e w' => e = .returned (.bool false) ∧ w' = w := by
  by_cases h0 : 1048576 < n
  · exact bytes_big0 a b n c m d w h0
  · by_cases h1 : 1048576 < m
    · exact bytes_big1 a b n c m d w (by omega) h1
    · exact bytes_big2 a b n c m d w (by omega) (by omega) h
set_option maxHeartbeats 400000 in
theorem walk_big (a b : Option Addr) (n c m d : Nat) (w : World) (h : 1048576 < n + m) :
    Calls Try.prog 4 #[.slice a n c, .slice b m d] w fun e w' => e = .returned (.bool true) ∧ Below w.heap.size w w' := by
  go_enter Try.func4, Try.ntmps4
  go_wp2_with (go_at_call 9; refine (bytes_no _ _ _ _ _ _ _ h).mono ?_; rintro e w' ⟨rfl, rfl⟩)
  go_ret
  exact ⟨rfl, Below.refl _ _⟩

/-! ### The tail's copy, told by what it is good for -/
def Tail (w w' : World) (m : Nat) (ts : List Int) (a : Option Addr) (c : Nat) : Prop := Cells w' a ts ∧ (a = none → m = 0 ∧ c = 0) ∧ Below w.heap.size w w'
theorem tail_nil (w : World) : Calls Try.prog 6 #[.slice none 0 0] w fun e w' => ∃ a c, e = .returned (.slice a 0 c) ∧ Tail w w' 0 [] a c :=
  (clone_nil w).mono fun e w' ⟨he, hw⟩ => ⟨none, 0, he, by subst hw; exact ⟨cells_none _, fun _ => ⟨rfl, rfl⟩, Below.refl _ _⟩⟩
theorem tail_row (x : Addr) (m d : Nat) (zs : List Int) (w : World) (hm : m ≤ 1048576) (hz : m ≤ zs.length) (hc : ∀ i, i < zs.length → w.cell? (x.add i) = some (.int .u8 (zs.getD i 0))) :
    Calls Try.prog 6 #[.slice (some x) m d] w fun e w' => ∃ a c, e = .returned (.slice a m c) ∧ Tail w w' m (zs.take m) a c :=
  (clone_row x m d zs w hm hz hc).mono fun e w' ⟨he, hcp⟩ => ⟨_, _, he, cells_of_row (hcp.row hz), (fun h => by cases h), hcp.2⟩


/-! ### The walk: b is nil -/
set_option maxHeartbeats 1000000 in
theorem walk_nil (b : Option Addr) (m d : Nat) (ts : List Int) (w : World) (hs : 0 + m ≤ 1048576) (hl : ts.length = m) (hb : Bytes ts)
    (T : Calls Try.prog 6 #[.slice b m d] w fun e w' => ∃ a c, e = .returned (.slice a m c) ∧ Tail w w' m ts a c) :
    Calls Try.prog 4 #[.slice none 0 0, .slice b m d] w fun e w' => e = .returned (.bool true) ∧ Below w.heap.size w w' := by
  have hm : m ≤ 1048576 := by omega
  have J := fun a1 c1 w hc hz => join_lf none a1 0 0 m c1 [] ts w (by omega) hm rfl hl (cells_none w) hc (fun _ => ⟨rfl, rfl⟩) hz
  have L := fun w B hr => lineEnd_lf B (0 + 1 + m) (0 + m + 1) 0 ([] ++ 10 :: ts) w (by omega) (by simp [hl]; omega) hr (bytes_join (ys := []) (fun x h => by cases h) hb) (lf_join (ys := []) (fun j h => absurd h (Nat.not_lt_zero _))) (Or.inl rfl)
  simp only [Nat.zero_add, List.nil_append] at J L
  clear hl
  go_enter Try.func4, Try.ntmps4
  go_wp2_with (first | (go_at_call 9; refine (bytes_yes _ _ _ _ _ _ _ hs).mono ?_; rintro e w9 ⟨rfl, hw⟩; subst w9) | (go_at_call_of 6 (Value.slice none 0 0); refine (clone_nil _).mono ?_; rintro e w9 ⟨rfl, hw⟩; subst w9))
  refine T.mono ?_
  rintro e w1 ⟨a, c, rfl, hc, hz, hbel⟩
  clear T
  go_wp2_with (first | (go_at_call 7; refine (first_nil _).mono ?_; rintro e w9 ⟨rfl, hw⟩; subst w9) | (go_at_call_of 8 (Value.slice none 0 0); refine (zzLineEnd (lineEnd_nil _)).mono ?_; rintro e w9 ⟨rfl, hw⟩; subst w9) | (go_at_call 11; refine (J _ _ _ hc hz).mono ?_; rintro e w2 ⟨rfl, hr, _, hbel2⟩))
  refine (zzLineEnd (L _ _ hr)).mono ?_
  rintro e w9 ⟨rfl, hw⟩
  subst w9
  go_wp2
  go_ret
  exact ⟨rfl, below_step hbel hbel2⟩

set_option maxHeartbeats 1000000 in
theorem walk_none_lf (x : Addr) (n cap : Nat) (zs ys : List Int) (b : Option Addr) (m d : Nat) (ts : List Int) (w : World) (hs : n + m ≤ 1048576) (hz0 : n ≤ zs.length) (hc0 : ∀ i, i < zs.length → w.cell? (x.add i) = some (.int .u8 (zs.getD i 0))) (ey : ys = zs.take n) (hb0 : Bytes ys) (hl : ts.length = m) (hb : Bytes ts)
    (T : ∀ w1, Below w.heap.size w w1 → Calls Try.prog 6 #[.slice b m d] w1 fun e w' => ∃ a c, e = .returned (.slice a m c) ∧ Tail w1 w' m ts a c) (h : NoLF ys) (hcr : n = 0 ∨ ys.getD (n - 1) 0 ≠ 13) :
    Calls Try.prog 4 #[.slice (some x) n cap, .slice b m d] w fun e w' => e = .returned (.bool true) ∧ Below w.heap.size w w' := by
  have hm : m ≤ 1048576 := by omega
  have hn : n ≤ 1048576 := by omega
  have hy : ys.length = n := by rw [ey, List.length_take]; omega
  have K := clone_row x n cap zs w hn hz0 hc0
  have hrow : ∀ w1, Copy w w1 n zs → Row w1 w.heap.size ys := fun w1 h => by rw [ey]; exact h.row hz0
  have F := fun w1 hr => first_none w.heap.size n n ys w1 (by omega) hy hr h
  have G := fun w1 hr => lineEnd_none w.heap.size n n ys w1 hy hr hb0 h
  have J := fun a1 c1 w1 hc0 hc hz => join_lf (some ⟨w.heap.size, 0, none⟩) a1 n n m c1 ys ts w1 hn hm hy hl hc0 hc (fun h => by cases h) hz
  have hlf : LFAt (ys ++ 10 :: ts) n := by rw [← hy]; exact lf_join h
  have hlen : (ys ++ 10 :: ts).length = n + 1 + m := by simp [hy, hl]; omega
  have L := fun w1 B hr => lineEnd_lf B (n + 1 + m) (n + m + 1) n (ys ++ 10 :: ts) w1 (by omega) hlen hr (bytes_join hb0 hb) hlf (by rcases hcr with q | q; exact Or.inl q; exact (Nat.eq_zero_or_pos n).elim Or.inl (fun hp => Or.inr (by rw [getD_left (by omega)]; exact q)))
  clear hlf hlen
  have HY : Hid _ := hy
  clear hl hc0 hz0 ey hy
  go_enter Try.func4, Try.ntmps4
  go_wp2_with (first | (go_at_call 9; refine (bytes_yes _ _ _ _ _ _ _ hs).mono ?_; rintro e w9 ⟨rfl, hw⟩; subst w9) | (go_at_call_of 6 (some x); refine K.mono ?_; rintro e w1 ⟨rfl, hcp⟩; have hr := hrow _ hcp; have hbel := hcp.2; clear hcp))
  refine (T _ hbel).mono ?_
  rintro e w2 ⟨a, c, rfl, hc, hz, hbel2⟩
  have hr2 := row_later hbel2 hr
  have hb2 := below_step hbel hbel2
  clear T hr hbel hbel2 K hrow
  by_cases hn0 : n = 0
  · subst hn0
    simp only [Nat.zero_add] at L
    go_wp2_with (first | (go_at_call 7; refine (F _ hr2).mono ?_; rintro e w9 ⟨rfl, hw⟩; subst w9) | (go_at_call_of 8 (w.heap.size); refine (zzLineEnd (G _ hr2)).mono ?_; rintro e w9 ⟨rfl, hw⟩; subst w9) | (go_at_call 11; refine (J _ _ _ (cells_of_row hr2) hc hz).mono ?_; rintro e w3 ⟨rfl, hr3, _, hbel3⟩))
    refine (zzLineEnd (L _ _ hr3)).mono ?_
    rintro e w9 ⟨rfl, hw⟩
    subst w9
    go_wp2
    go_ret
    exact ⟨rfl, below_step hb2 hbel3⟩
  · have hp : 1 ≤ n := by omega
    have hck := hr2 (n - 1) (by have := HY.out; omega)
    obtain ⟨c9, ec⟩ : ∃ c, c = ys.getD (n - 1) 0 := ⟨_, rfl⟩
    rw [← ec] at hck
    have hne : (c9 == 13) = false := beq_eq_false_iff_ne.2 (by rw [ec]; rcases hcr with q | q; exact absurd q hn0; exact q)
    clear ec hn0 hcr
    go_wp2_with (first | (go_at_call 7; refine (F _ hr2).mono ?_; rintro e w9 ⟨rfl, hw⟩; subst w9) | (go_at_call_of 8 (w.heap.size); refine (zzLineEnd (G _ hr2)).mono ?_; rintro e w9 ⟨rfl, hw⟩; subst w9) | (go_at_call 11; refine (J _ _ _ (cells_of_row hr2) hc hz).mono ?_; rintro e w3 ⟨rfl, hr3, _, hbel3⟩))
    refine (zzLineEnd (L _ _ hr3)).mono ?_
    rintro e w9 ⟨rfl, hw⟩
    subst w9
    go_wp2
    go_ret
    exact ⟨rfl, below_step hb2 hbel3⟩

set_option maxHeartbeats 1000000 in
theorem walk_none_crlf (x : Addr) (n cap : Nat) (zs ys : List Int) (b : Option Addr) (m d : Nat) (ts : List Int) (w : World) (hs : n + m ≤ 1048576) (hz0 : n ≤ zs.length) (hc0 : ∀ i, i < zs.length → w.cell? (x.add i) = some (.int .u8 (zs.getD i 0))) (ey : ys = zs.take n) (hb0 : Bytes ys) (hl : ts.length = m) (hb : Bytes ts)
    (T : ∀ w1, Below w.heap.size w w1 → Calls Try.prog 6 #[.slice b m d] w1 fun e w' => ∃ a c, e = .returned (.slice a m c) ∧ Tail w1 w' m ts a c) (h : NoLF ys) (hp : 1 ≤ n) (hcr : ys.getD (n - 1) 0 = 13) :
    Calls Try.prog 4 #[.slice (some x) n cap, .slice b m d] w fun e w' => e = .returned (.bool true) ∧ Below w.heap.size w w' := by
  have hm : m ≤ 1048576 := by omega
  have hn : n ≤ 1048576 := by omega
  have hy : ys.length = n := by rw [ey, List.length_take]; omega
  have K := clone_row x n cap zs w hn hz0 hc0
  have hrow : ∀ w1, Copy w w1 n zs → Row w1 w.heap.size ys := fun w1 h => by rw [ey]; exact h.row hz0
  have F := fun w1 hr => first_none w.heap.size n n ys w1 (by omega) hy hr h
  have G := fun w1 hr => lineEnd_none w.heap.size n n ys w1 hy hr hb0 h
  have J := fun a1 c1 w1 hc0 hc hz => join_lf (some ⟨w.heap.size, 0, none⟩) a1 n n m c1 ys ts w1 hn hm hy hl hc0 hc (fun h => by cases h) hz
  have hlf : LFAt (ys ++ 10 :: ts) n := by rw [← hy]; exact lf_join h
  have hlen : (ys ++ 10 :: ts).length = n + 1 + m := by simp [hy, hl]; omega
  have L := fun w1 B hr => lineEnd_crlf B (n + 1 + m) (n + m + 1) n (ys ++ 10 :: ts) w1 (by omega) hlen hr (bytes_join hb0 hb) hlf hp (by rw [getD_left (by omega)]; exact hcr)
  have HCR : Hid _ := hcr
  clear hlf hlen hcr
  have HY : Hid _ := hy
  clear hl hc0 hz0 ey hy
  go_enter Try.func4, Try.ntmps4
  go_wp2_with (first | (go_at_call 9; refine (bytes_yes _ _ _ _ _ _ _ hs).mono ?_; rintro e w9 ⟨rfl, hw⟩; subst w9) | (go_at_call_of 6 (some x); refine K.mono ?_; rintro e w1 ⟨rfl, hcp⟩; have hr := hrow _ hcp; have hbel := hcp.2; clear hcp))
  refine (T _ hbel).mono ?_
  rintro e w2 ⟨a, c, rfl, hc, hz, hbel2⟩
  have hr2 := row_later hbel2 hr
  have hb2 := below_step hbel hbel2
  clear T hr hbel hbel2 K hrow
  have hck := hr2 (n - 1) (by have := HY.out; omega)
  rw [HCR.out] at hck
  go_wp2_with (first | (go_at_call 7; refine (F _ hr2).mono ?_; rintro e w9 ⟨rfl, hw⟩; subst w9) | (go_at_call_of 8 (w.heap.size); refine (zzLineEnd (G _ hr2)).mono ?_; rintro e w9 ⟨rfl, hw⟩; subst w9) | (go_at_call 11; refine (J _ _ _ (cells_of_row hr2) hc hz).mono ?_; rintro e w3 ⟨rfl, hr3, _, hbel3⟩))
  refine (zzLineEnd (L _ _ hr3)).mono ?_
  rintro e w9 ⟨rfl, hw⟩
  subst w9
  go_wp2
  go_ret
  exact ⟨rfl, below_step hb2 hbel3⟩

set_option maxHeartbeats 1000000 in
theorem walk_lf (x : Addr) (n cap : Nat) (zs ys : List Int) (b : Option Addr) (m d : Nat) (ts : List Int) (w : World) (hs : n + m ≤ 1048576) (hz0 : n ≤ zs.length) (hc0 : ∀ i, i < zs.length → w.cell? (x.add i) = some (.int .u8 (zs.getD i 0))) (ey : ys = zs.take n) (hb0 : Bytes ys) (hl : ts.length = m) (hb : Bytes ts)
    (T : ∀ w1, Below w.heap.size w w1 → Calls Try.prog 6 #[.slice b m d] w1 fun e w' => ∃ a c, e = .returned (.slice a m c) ∧ Tail w1 w' m ts a c) (p : Nat) (h : LFAt ys p) (hcr : p = 0 ∨ ys.getD (p - 1) 0 ≠ 13) :
    Calls Try.prog 4 #[.slice (some x) n cap, .slice b m d] w fun e w' => e = .returned (.bool true) ∧ Below w.heap.size w w' := by
  have hm : m ≤ 1048576 := by omega
  have hn : n ≤ 1048576 := by omega
  have hy : ys.length = n := by rw [ey, List.length_take]; omega
  have K := clone_row x n cap zs w hn hz0 hc0
  have hrow : ∀ w1, Copy w w1 n zs → Row w1 w.heap.size ys := fun w1 h => by rw [ey]; exact h.row hz0
  have hp : p < n := by have := h.1; omega
  have F := fun w1 hr => first_at w.heap.size n n p ys w1 (by omega) hy hr h
  have J := fun a1 c1 w1 hc0 hc hz => join_no (some ⟨w.heap.size, 0, none⟩) a1 n n m c1 ys ts w1 hn hm hy hl hc0 hc (fun h => by cases h) hz
  have hlf : LFAt (ys ++ ts) p := lf_keep h
  have hlen : (ys ++ ts).length = n + m := by simp [hy, hl]
  have HLF : Hid _ := h.2.1
  have G := fun w1 hr => lineEnd_lf w.heap.size n n p ys w1 (by omega) hy hr hb0 h hcr
  have L := fun w1 B hr => lineEnd_lf B (n + m) (n + m + 1) p (ys ++ ts) w1 (by omega) hlen hr (bytes_two hb0 hb) hlf (by rcases hcr with q | q; exact Or.inl q; exact (Nat.eq_zero_or_pos p).elim Or.inl (fun hp => Or.inr (by rw [getD_left (by omega)]; exact q)))
  clear hlf hlen hcr
  have HY : Hid _ := hy
  clear hl hc0 hz0 ey hy
  go_enter Try.func4, Try.ntmps4
  go_wp2_with (first | (go_at_call 9; refine (bytes_yes _ _ _ _ _ _ _ hs).mono ?_; rintro e w9 ⟨rfl, hw⟩; subst w9) | (go_at_call_of 6 (some x); refine K.mono ?_; rintro e w1 ⟨rfl, hcp⟩; have hr := hrow _ hcp; have hbel := hcp.2; clear hcp))
  refine (T _ hbel).mono ?_
  rintro e w2 ⟨a, c, rfl, hc, hz, hbel2⟩
  have hr2 := row_later hbel2 hr
  have hb2 := below_step hbel hbel2
  clear T hr hbel hbel2 K hrow
  have E := fun cap wz (hr : Row wz w.heap.size ys) => ends_yes w.heap.size (p + 1) cap ⟨#[10]⟩ wz (by omega) (show 1 ≤ p + 1 by omega) (fun j hj => by
    have hj0 : j = 0 := by have : j < 1 := hj; omega
    subst hj0
    have := hr p (by have := HY.out; omega)
    rw [HLF.out] at this
    exact this)
  go_wp2_with (first | (go_at_call 7; refine (F _ hr2).mono ?_; rintro e w9 ⟨rfl, hw⟩; subst w9) | (go_at_call_of 8 (w.heap.size); refine (zzLineEnd (G _ hr2)).mono ?_; rintro e w9 ⟨rfl, hw⟩; subst w9) | (go_at_call 10; refine (E _ _ hr2).mono ?_; rintro e w5 ⟨rfl, q5, rfl⟩) | (go_at_call 11; refine (J _ _ (w2.drewN q5) (cells_of_row (show Row (w2.drewN q5) _ _ from hr2)) (show Cells (w2.drewN q5) _ _ from hc) hz).mono ?_; rintro e w3 ⟨rfl, hr3, _, hbel3⟩))
  refine (zzLineEnd (L w3 w2.heap.size hr3)).mono ?_
  rintro e w9 ⟨rfl, hw⟩
  subst w9
  go_wp2
  go_ret
  exact ⟨rfl, below_step (below_drewN hb2 q5) hbel3⟩

set_option maxHeartbeats 1000000 in
theorem walk_crlf (x : Addr) (n cap : Nat) (zs ys : List Int) (b : Option Addr) (m d : Nat) (ts : List Int) (w : World) (hs : n + m ≤ 1048576) (hz0 : n ≤ zs.length) (hc0 : ∀ i, i < zs.length → w.cell? (x.add i) = some (.int .u8 (zs.getD i 0))) (ey : ys = zs.take n) (hb0 : Bytes ys) (hl : ts.length = m) (hb : Bytes ts)
    (T : ∀ w1, Below w.heap.size w w1 → Calls Try.prog 6 #[.slice b m d] w1 fun e w' => ∃ a c, e = .returned (.slice a m c) ∧ Tail w1 w' m ts a c) (p : Nat) (h : LFAt ys p) (hp1 : 1 ≤ p) (hcr : ys.getD (p - 1) 0 = 13) :
    Calls Try.prog 4 #[.slice (some x) n cap, .slice b m d] w fun e w' => e = .returned (.bool true) ∧ Below w.heap.size w w' := by
  have hm : m ≤ 1048576 := by omega
  have hn : n ≤ 1048576 := by omega
  have hy : ys.length = n := by rw [ey, List.length_take]; omega
  have K := clone_row x n cap zs w hn hz0 hc0
  have hrow : ∀ w1, Copy w w1 n zs → Row w1 w.heap.size ys := fun w1 h => by rw [ey]; exact h.row hz0
  have hp : p < n := by have := h.1; omega
  have F := fun w1 hr => first_at w.heap.size n n p ys w1 (by omega) hy hr h
  have J := fun a1 c1 w1 hc0 hc hz => join_no (some ⟨w.heap.size, 0, none⟩) a1 n n m c1 ys ts w1 hn hm hy hl hc0 hc (fun h => by cases h) hz
  have hlf : LFAt (ys ++ ts) p := lf_keep h
  have hlen : (ys ++ ts).length = n + m := by simp [hy, hl]
  have HLF : Hid _ := h.2.1
  have G := fun w1 hr => lineEnd_crlf w.heap.size n n p ys w1 (by omega) hy hr hb0 h hp1 hcr
  have L := fun w1 B hr => lineEnd_crlf B (n + m) (n + m + 1) p (ys ++ ts) w1 (by omega) hlen hr (bytes_two hb0 hb) hlf hp1 (by rw [getD_left (by omega)]; exact hcr)
  have HCR : Hid _ := hcr
  clear hlf hlen hcr
  have HY : Hid _ := hy
  clear hl hc0 hz0 ey hy
  go_enter Try.func4, Try.ntmps4
  go_wp2_with (first | (go_at_call 9; refine (bytes_yes _ _ _ _ _ _ _ hs).mono ?_; rintro e w9 ⟨rfl, hw⟩; subst w9) | (go_at_call_of 6 (some x); refine K.mono ?_; rintro e w1 ⟨rfl, hcp⟩; have hr := hrow _ hcp; have hbel := hcp.2; clear hcp))
  refine (T _ hbel).mono ?_
  rintro e w2 ⟨a, c, rfl, hc, hz, hbel2⟩
  have hr2 := row_later hbel2 hr
  have hb2 := below_step hbel hbel2
  clear T hr hbel hbel2 K hrow
  have E := fun cap wz (hr : Row wz w.heap.size ys) => ends_yes w.heap.size (p + 1) cap ⟨#[13, 10]⟩ wz (by omega) (show 2 ≤ p + 1 by omega) (fun j hj => by
    have hj2 : j < 2 := hj
    rcases (show j = 0 ∨ j = 1 by omega) with hj0 | hj0
    · subst hj0
      have := hr (p - 1) (by have := HY.out; omega)
      rw [HCR.out] at this
      exact this
    · subst hj0
      have := hr p (by have := HY.out; omega)
      rw [HLF.out] at this
      rw [show p + 1 - (⟨#[13, 10]⟩ : ByteArray).size + 1 = p from (show p + 1 - 2 + 1 = p by omega)]
      exact this)
  go_wp2_with (first | (go_at_call 7; refine (F _ hr2).mono ?_; rintro e w9 ⟨rfl, hw⟩; subst w9) | (go_at_call_of 8 (w.heap.size); refine (zzLineEnd (G _ hr2)).mono ?_; rintro e w9 ⟨rfl, hw⟩; subst w9) | (go_at_call 10; refine (E _ _ hr2).mono ?_; rintro e w5 ⟨rfl, q5, rfl⟩) | (go_at_call 11; refine (J _ _ (w2.drewN q5) (cells_of_row (show Row (w2.drewN q5) _ _ from hr2)) (show Cells (w2.drewN q5) _ _ from hc) hz).mono ?_; rintro e w3 ⟨rfl, hr3, _, hbel3⟩))
  refine (zzLineEnd (L w3 w2.heap.size hr3)).mono ?_
  rintro e w9 ⟨rfl, hw⟩
  subst w9
  go_wp2
  go_ret
  exact ⟨rfl, below_step (below_drewN hb2 q5) hbel3⟩

theorem tail_any (b : Option Addr) (m d : Nat) (z1 : List Int) (w : World) (hm : m ≤ 1048576) (h : IsRow .u8 w b m d z1) : ∀ w1, Below w.heap.size w w1 → Calls Try.prog 6 #[.slice b m d] w1 fun e w' => ∃ a c, e = .returned (.slice a m c) ∧ Tail w1 w' m (z1.take m) a c := by
  intro w1 hb
  rcases h with ⟨rfl, rfl, rfl, rfl⟩ | ⟨x, rfl, hl, hx, hz, hcell, hwf⟩
  · exact tail_nil w1
  · exact tail_row x m d z1 w1 hm (by omega) (fun i hi => cell_later hb (hcell i hi))
theorem row_len {w : World} {b : Option Addr} {m d : Nat} {z : List Int} (h : IsRow .u8 w b m d z) : (z.take m).length = m := by
  rcases h with ⟨_, rfl, _, rfl⟩ | ⟨x, _, hl, hx, hz, _, _⟩
  · rfl
  · rw [List.length_take]; omega
theorem row_bytes {w : World} {b : Option Addr} {m d : Nat} {z : List Int} (h : IsRow .u8 w b m d z) : Bytes (z.take m) := by
  rcases h with ⟨_, rfl, _, rfl⟩ | ⟨x, _, hl, hx, hz, _, hwf⟩
  · intro x hx; cases hx
  · exact bytes_take m hwf

theorem walk (a0 : Option Addr) (len0 cap0 : Nat) (z0 : List Int) (a1 : Option Addr) (len1 cap1 : Nat) (z1 : List Int) (w : World) (w0 : IsRow .u8 w a0 len0 cap0 z0) (w1 : IsRow .u8 w a1 len1 cap1 z1) :
    Calls Try.prog 4 #[.slice a0 len0 cap0, .slice a1 len1 cap1] w fun e w' => e = .returned (.bool true) ∧ Below w.heap.size w w' := by
  by_cases hbig : 1048576 < len0 + len1
  · exact walk_big _ _ _ _ _ _ _ hbig
  · have hs : len0 + len1 ≤ 1048576 := by omega
    have T := tail_any a1 len1 cap1 z1 w (by omega) w1
    have hl := row_len w1
    have hb := row_bytes w1
    have hy := row_len w0
    have hb0 := row_bytes w0
    rcases w0 with ⟨rfl, rfl, rfl, rfl⟩ | ⟨x, rfl, hlc, hm, hz, hcell, hwf⟩
    · exact walk_nil a1 len1 cap1 (z1.take len1) w hs hl hb (T w (Below.refl _ _))
    · rcases lf_cases (z0.take len0) with h | ⟨p, h⟩
      · by_cases h1 : 1 ≤ len0
        · by_cases hcr : (z0.take len0).getD (len0 - 1) 0 = 13
          · exact walk_none_crlf x len0 cap0 z0 _ a1 len1 cap1 _ w hs (by omega) hcell rfl hb0 hl hb T h h1 hcr
          · exact walk_none_lf x len0 cap0 z0 _ a1 len1 cap1 _ w hs (by omega) hcell rfl hb0 hl hb T h (Or.inr hcr)
        · exact walk_none_lf x len0 cap0 z0 _ a1 len1 cap1 _ w hs (by omega) hcell rfl hb0 hl hb T h (Or.inl (by omega))
      · by_cases h1 : 1 ≤ p
        · by_cases hcr : (z0.take len0).getD (p - 1) 0 = 13
          · exact walk_crlf x len0 cap0 z0 _ a1 len1 cap1 _ w hs (by omega) hcell rfl hb0 hl hb T p h h1 hcr
          · exact walk_lf x len0 cap0 z0 _ a1 len1 cap1 _ w hs (by omega) hcell rfl hb0 hl hb T p h (Or.inr hcr)
        · exact walk_lf x len0 cap0 z0 _ a1 len1 cap1 _ w hs (by omega) hcell rfl hb0 hl hb T p h (Or.inl (by omega))

/-! ### THE ROW's STEP: WRITTEN OUT: LEAVE IT -/
set_option maxRecDepth 100000 in
theorem lifted (os : Os) (started : os.Started) (H : Type) (enc : TypeId × Value → H) :
    ReturnsInHanded {} Try.checked os 4 .any (Rows.fnLineEndOfHangsOnTheFirstLineAloneSpec.pre6 enc Try.prog Try.f4 Rows.fnLineEndOfHangsOnTheFirstLineAloneRow.domain false) (Rows.fnLineEndOfHangsOnTheFirstLineAloneSpec.post enc Try.prog Try.f4 false true false false) := by
  refine returnsInHanded_of_change (C := Try.checked) own started (by kernel_rfl) Try.func4
    (ChangeSpec.witness6 (enc := enc) (C := Try.checked) false ⟨#[], #[.slice none 0 0, .slice none 0 0], []⟩ 8 (by kernel_rfl) (by kernel_rfl) (by kernel_rfl) (by kernel_rfl)) ?_
  intro W base args ds gs before hval0 hW hcnd _
  have hval : ∀ (j : Nat) t v, Try.f4.params[j]? = some t → args[j]? = some v → Value.okWide Try.prog W .any base t v := hval0
  have hW' := hW
  obtain ⟨p, q, hA0, hV, rfl, hfz, hnd⟩ := hW
  have hA : DataW.TrodAll enc Try.prog W 0 (fun _ => true) true Try.f4.params.toList args.toList ds p := hA0
  rw [Try.params4] at hA hval
  obtain ⟨v0, vs0, d0, ds0, p0, q0, hargs, rfl, rfl, h0, r0⟩ := trodAll_cons hA
  obtain ⟨v1, vs1, d1, ds1, p1, q1, rfl, rfl, rfl, h1, r1⟩ := trodAll_cons r0
  obtain ⟨rfl, rfl, rfl⟩ := trodAll_nil r1
  obtain rfl : args = #[v0, v1] := by cases args; simp_all
  obtain ⟨rfl, rfl⟩ := trodVars_none hV
  obtain ⟨a0, len0, cap0, rfl⟩ := okWide_slice Try.underlying22 (hval 0 22 v0 rfl rfl)
  have k0 := h0
  have lt0 : ∀ x ∈ p0, x.block < W.heap.size := by obtain ⟨m, hm⟩ := k0; exact DataW.trod_lt m _ _ _ hm
  obtain ⟨z0, w0⟩ : ∃ zs, IsRow .u8 W a0 len0 cap0 zs := by
    obtain ⟨fuel, hf⟩ := h0
    rcases open_ints Try.underlying22 Try.underlying5 (by kernel_rfl) hf with ⟨hcs, _⟩ | ⟨x, l, c, zs, hcs, _, hl, hm, hz, _, hcell, hwz⟩
    · simp [Value.cells] at hcs
      obtain ⟨rfl, rfl, rfl⟩ := hcs
      exact ⟨[], .inl ⟨rfl, rfl, rfl, rfl⟩⟩
    · simp [Value.cells] at hcs
      obtain ⟨rfl, rfl, rfl⟩ := hcs
      exact ⟨zs, .inr ⟨_, rfl, hl, hm, by simpa using hz, hcell, hwz⟩⟩
  obtain ⟨a1, len1, cap1, rfl⟩ := okWide_slice Try.underlying22 (hval 1 22 v1 rfl rfl)
  have k1 := h1
  have lt1 : ∀ x ∈ p1, x.block < W.heap.size := by obtain ⟨m, hm⟩ := k1; exact DataW.trod_lt m _ _ _ hm
  obtain ⟨z1, w1⟩ : ∃ zs, IsRow .u8 W a1 len1 cap1 zs := by
    obtain ⟨fuel, hf⟩ := h1
    rcases open_ints Try.underlying22 Try.underlying5 (by kernel_rfl) hf with ⟨hcs, _⟩ | ⟨x, l, c, zs, hcs, _, hl, hm, hz, _, hcell, hwz⟩
    · simp [Value.cells] at hcs
      obtain ⟨rfl, rfl, rfl⟩ := hcs
      exact ⟨[], .inl ⟨rfl, rfl, rfl, rfl⟩⟩
    · simp [Value.cells] at hcs
      obtain ⟨rfl, rfl, rfl⟩ := hcs
      exact ⟨zs, .inr ⟨_, rfl, hl, hm, by simpa using hz, hcell, hwz⟩⟩
  clear hA0 hval0
  refine (walk a0 len0 cap0 z0 a1 len1 cap1 z1 W w0 w1).mono fun e W' ⟨he, bel⟩ => ?_
  subst he
  exact ⟨_, rfl, _, _, _, [], _, [], hW', trodAll_mk1 (shut_bool Try.underlying4 _), (trodAll_cons_mk (Below.trod laidOut (by kernel_rfl) (of_decide_eq_true (by kernel_rfl)) k0 bel lt0) (trodAll_cons_mk (Below.trod laidOut (by kernel_rfl) (of_decide_eq_true (by kernel_rfl)) k1 bel lt1) trodAll_mk0)), rfl, bel.frame _, fun h => by cases h⟩

theorem over : Rows.fnLineEndOfHangsOnTheFirstLineAloneRow.holds Try.pinned (OpenSpec.ofChange Rows.fnLineEndOfHangsOnTheFirstLineAloneSpec) :=
  OpenClaim.holds_of_wide 4 Try.f4 rfl rfl rfl rfl rfl rfl rfl ⟨rfl, rfl, rfl, rfl, rfl⟩ rfl rfl rfl rfl rfl (by kernel_rfl) Try.func4 (by kernel_rfl)
    (of_decide_eq_true (by kernel_rfl)) (by unfold Func.isWrapper; first | (rw [if_pos (by decide +kernel)]; kernel_rfl) | (rw [if_neg (by decide +kernel)]; exact ⟨rfl, rfl⟩))
    (fun os started H enc _ => lifted os started H enc)

/-- ████ THE STATEMENT ████ -/
theorem proved : Rows.FnLineEndOfHangsOnTheFirstLineAloneSaid := over
#print axioms proved
end Go.Proofs.Qxb6604695a.fnLineEndOfHangsOnTheFirstLineAlone
