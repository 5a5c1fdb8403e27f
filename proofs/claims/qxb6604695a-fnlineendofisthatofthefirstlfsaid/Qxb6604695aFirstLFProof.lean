import Derived.Test.Qxb6604695aRows
import Derived.Test.Qxb6604695aFirst
import Derived.WalkKit
import Derived.ProofKit
import Derived.OpenShut
import Derived.ShutString
import Derived.ChangeOld
import Derived.Below
namespace Go.Proofs.Qxb6604695a.fnLineEndOfIsThatOfTheFirstLF
open Go.ChangeShapes Go.WideShapes Go.ChangeAt Go.RowKit
open Go.ChangeMaps (open_string shut_string)
set_option linter.unusedVariables false

theorem own : ownKnob Try.prog.godebug = none := by kernel_rfl
theorem laidOut : laidOutB Try.prog = true := by kernel_rfl

/-- WHAT THE WALK IS TOLD OF A SLICE OF INTEGERS THAT CAME IN: it is nil; or it leads to a row of 'cap' cells, the numbers 'zs' (the first 'len' are its elements, the rest its spare room), each fitting its kind. -/
def IsRow (k : IntKind) (w : World) (a : Option Addr) (len cap : Nat) (zs : List Int) : Prop :=
  (a = none ∧ len = 0 ∧ cap = 0 ∧ zs = []) ∨
  ∃ x, a = some x ∧ len ≤ cap ∧ cap ≤ maxLen ∧ zs.length = cap ∧ (∀ i, i < zs.length → w.cell? (x.add i) = some (.int k (zs.getD i 0))) ∧ ∀ n ∈ zs, (Lit.int k n).wf = true

theorem bytes_no (a : Option Addr) (n cap : Nat) (w : World) (h : 1048576 < n) :
    Calls Try.prog 5 #[.slice a n cap] w fun e w' => e = .returned (.bool false) ∧ w' = w := by
  go_enter Try.func5, Try.ntmps5
  go_wp2
  go_ret
  exact ⟨rfl, rfl⟩
theorem bytes_yes (a : Option Addr) (n cap : Nat) (w : World) (h : n ≤ 1048576) :
    Calls Try.prog 5 #[.slice a n cap] w fun e w' => e = .returned (.bool true) ∧ w' = w := by
  go_enter Try.func5, Try.ntmps5
  go_wp2
  go_ret
  exact ⟨rfl, rfl⟩

set_option maxHeartbeats 400000 in
theorem walk_big (a0 : Option Addr) (len0 cap0 : Nat) (w : World) (h : 1048576 < len0) (hm : len0 ≤ maxLen) :
    Calls Try.prog 3 #[.slice a0 len0 cap0] w fun e w' => e = .returned (.bool true) ∧ Below w.heap.size w w' := by
  go_enter Try.func3, Try.ntmps3
  go_wp2_with (go_at_call 5; refine (bytes_no _ _ _ _ h).mono ?_; rintro e w' ⟨rfl, rfl⟩)
  go_ret
  exact ⟨rfl, Below.refl _ _⟩

set_option maxHeartbeats 400000 in
theorem walk_nil (w : World) :
    Calls Try.prog 3 #[.slice none 0 0] w fun e w' => e = .returned (.bool true) ∧ Below w.heap.size w w' := by
  go_enter Try.func3, Try.ntmps3
  go_wp2_with (first | (go_at_call 5; refine (bytes_yes _ _ _ _ (by omega)).mono ?_; rintro e w' ⟨rfl, rfl⟩) | (go_at_call 6; refine (clone_nil _).mono ?_; rintro e w' ⟨rfl, rfl⟩) | (go_at_call 7; refine (first_nil _).mono ?_; rintro e w' ⟨rfl, rfl⟩) | (go_at_call 8; refine (zzLineEnd (lineEnd_nil _)).mono ?_; rintro e w' ⟨rfl, rfl⟩))
  refine wp_loop_rounds 1 ?_
  rw [rounds_succ]
  go_wp2_with (first | (go_at_call 8; refine (zzLineEnd (lineEnd_nil _)).mono ?_; rintro e w' ⟨rfl, rfl⟩))
  go_ret
  exact ⟨rfl, Below.refl _ _⟩

theorem bool_two (b : Bool) : b = true ∨ b = false := by cases b <;> simp
set_option maxHeartbeats 1000000 in
theorem walk_none (x : Addr) (n cap : Nat) (zs : List Int) (w : World) (hn : n ≤ 1048576) (hz : n ≤ zs.length) (hc : ∀ i, i < zs.length → w.cell? (x.add i) = some (.int .u8 (zs.getD i 0))) (hb : Bytes (zs.take n)) (h : NoLF (zs.take n)) :
    Calls Try.prog 3 #[.slice (some x) n cap] w fun e w' => e = .returned (.bool true) ∧ Below w.heap.size w w' := by
  have hl : (zs.take n).length = n := by rw [List.length_take]; omega
  have K := fun w hc => clone_row x n cap zs w hn hz hc
  obtain ⟨ys, ey⟩ : ∃ ys, ys = zs.take n := ⟨_, rfl⟩
  have HZ : Hid _ := hz
  have K := K w hc
  have hrow : ∀ w1, Copy w w1 n zs → Row w1 w.heap.size ys := fun w1 h => by rw [ey]; exact h.row HZ.out
  rw [← ey] at hl hb h
  have F := fun w1 hr => first_none w.heap.size n n ys w1 (by omega) hl hr h
  have L := fun w1 hr => lineEnd_none w.heap.size n n ys w1 hl hr hb h
  have HL : Hid _ := hl
  clear hc hz ey hl
  go_enter Try.func3, Try.ntmps3
  go_wp2_with (first | (go_at_call 5; refine (bytes_yes _ _ _ _ hn).mono ?_; rintro e w' ⟨rfl, rfl⟩) | (go_at_call 6; refine K.mono ?_; rintro e w1 ⟨rfl, hcp⟩; have hr := hrow _ hcp; have hbel := hcp.2; clear hcp) | (go_at_call 7; refine (F _ hr).mono ?_; rintro e w' ⟨rfl, hw⟩; subst hw))
  go_loop [4, 5] (fun c i => ∃ k : Nat, c = .int .i64 (-1) ∧ i = .int .i64 k ∧ k ≤ n) (fun _ i => n - (intOf i).toNat)
  case atStart => exact ⟨0, rfl, rfl, Nat.zero_le _⟩
  case round =>
    obtain ⟨k, rfl, rfl, hk⟩ := hrel
    by_cases hlt : k + 1 < n
    · have hlt' : ((k : Int) + 1) < n := by omega
      have hc0 := hr k (by have := HL.out; omega)
      have hc1 := hr (k + 1) (by have := HL.out; omega)
      obtain ⟨c0, e0⟩ : ∃ c, c = ys.getD k 0 := ⟨_, rfl⟩
      obtain ⟨c1, e1⟩ : ∃ c, c = ys.getD (k + 1) 0 := ⟨_, rfl⟩
      rw [← e0] at hc0
      rw [← e1] at hc1
      have b1 := getD_ne e1 (h (k + 1) (by have := HL.out; omega))
      clear e0 e1
      rcases bool_two (c0 == 13) with b0 | b0
      all_goals
        go_wp2
        go_round
        case rel => exact ⟨k + 1, rfl, by go_num, by omega⟩
        case measure => simp [intOf]; omega
    · go_wp2_with (first | (go_at_call 8; refine (zzLineEnd (L _ hr)).mono ?_; rintro e w' ⟨rfl, hw⟩; subst hw))
      go_ret
      exact ⟨rfl, hbel⟩

set_option maxHeartbeats 1000000 in
theorem walk_lf (x : Addr) (n cap : Nat) (zs : List Int) (w : World) (hn : n ≤ 1048576) (hz : n ≤ zs.length) (hc : ∀ i, i < zs.length → w.cell? (x.add i) = some (.int .u8 (zs.getD i 0))) (hb : Bytes (zs.take n)) (p : Nat) (h : LFAt (zs.take n) p) (hcr : p = 0 ∨ (zs.take n).getD (p - 1) 0 ≠ 13) :
    Calls Try.prog 3 #[.slice (some x) n cap] w fun e w' => e = .returned (.bool true) ∧ Below w.heap.size w w' := by
  have hl : (zs.take n).length = n := by rw [List.length_take]; omega
  have K := fun w hc => clone_row x n cap zs w hn hz hc
  obtain ⟨ys, ey⟩ : ∃ ys, ys = zs.take n := ⟨_, rfl⟩
  have HZ : Hid _ := hz
  have K := K w hc
  have hrow : ∀ w1, Copy w w1 n zs → Row w1 w.heap.size ys := fun w1 h => by rw [ey]; exact h.row HZ.out
  rw [← ey] at hl hb h
  rw [← ey] at hcr
  have hp : p < n := by have := h.1; omega
  have F := fun w1 hr => first_at w.heap.size n n p ys w1 (by omega) hl hr h
  have L := fun w1 hr => lineEnd_lf w.heap.size n n p ys w1 (by omega) hl hr hb h hcr
  have PO := fun k => pair_off (zs := ys) (p := p) (k := k) hcr
  clear hcr
  have HL : Hid _ := hl
  clear hc hz ey hl
  go_enter Try.func3, Try.ntmps3
  go_wp2_with (first | (go_at_call 5; refine (bytes_yes _ _ _ _ hn).mono ?_; rintro e w' ⟨rfl, rfl⟩) | (go_at_call 6; refine K.mono ?_; rintro e w1 ⟨rfl, hcp⟩; have hr := hrow _ hcp; have hbel := hcp.2; clear hcp) | (go_at_call 7; refine (F _ hr).mono ?_; rintro e w' ⟨rfl, hw⟩; subst hw))
  go_loop [4, 5] (fun c i => ∃ k : Nat, c = .int .i64 (-1) ∧ i = .int .i64 k ∧ k ≤ n) (fun _ i => n - (intOf i).toNat)
  case atStart => exact ⟨0, rfl, rfl, Nat.zero_le _⟩
  case round =>
    obtain ⟨k, rfl, rfl, hk⟩ := hrel
    by_cases hlt : k + 1 < n
    · have hlt' : ((k : Int) + 1) < n := by omega
      have hc0 := hr k (by have := HL.out; omega)
      have hc1 := hr (k + 1) (by have := HL.out; omega)
      obtain ⟨c0, e0⟩ : ∃ c, c = ys.getD k 0 := ⟨_, rfl⟩
      obtain ⟨c1, e1⟩ : ∃ c, c = ys.getD (k + 1) 0 := ⟨_, rfl⟩
      rw [← e0] at hc0
      rw [← e1] at hc1
      have PK : c0 = 13 → c1 = 10 → k + 1 ≠ p := fun q0 q1 => PO k ⟨by have := HL.out; omega, by rw [← e0, q0], by rw [← e1, q1]⟩
      clear e0 e1
      rcases bool_two (c0 == 13) with b0 | b0
      · rcases bool_two (c1 == 10) with b1 | b1
        · have hkp : ((k : Int) + 1 == p) = false := beq_eq_false_iff_ne.2 (by have := PK (beq_iff_eq.1 b0) (beq_iff_eq.1 b1); omega)
          clear PK
          go_wp2_with (first | (go_at_call 8; refine (zzLineEnd (L _ hr)).mono ?_; rintro e w' ⟨rfl, hw⟩; subst hw))
          go_ret
          exact ⟨rfl, hbel⟩
        · clear PK
          go_wp2
          go_round
          case rel => exact ⟨k + 1, rfl, by go_num, by omega⟩
          case measure => simp [intOf]; omega
      · clear PK
        go_wp2
        go_round
        case rel => exact ⟨k + 1, rfl, by go_num, by omega⟩
        case measure => simp [intOf]; omega
    · go_wp2_with (first | (go_at_call 8; refine (zzLineEnd (L _ hr)).mono ?_; rintro e w' ⟨rfl, hw⟩; subst hw))
      go_ret
      exact ⟨rfl, hbel⟩

set_option maxHeartbeats 1000000 in
theorem walk_crlf (x : Addr) (n cap : Nat) (zs : List Int) (w : World) (hn : n ≤ 1048576) (hz : n ≤ zs.length) (hc : ∀ i, i < zs.length → w.cell? (x.add i) = some (.int .u8 (zs.getD i 0))) (hb : Bytes (zs.take n)) (p : Nat) (h : LFAt (zs.take n) p) (h1 : 1 ≤ p) (hcr : (zs.take n).getD (p - 1) 0 = 13) :
    Calls Try.prog 3 #[.slice (some x) n cap] w fun e w' => e = .returned (.bool true) ∧ Below w.heap.size w w' := by
  have hl : (zs.take n).length = n := by rw [List.length_take]; omega
  have K := fun w hc => clone_row x n cap zs w hn hz hc
  obtain ⟨ys, ey⟩ : ∃ ys, ys = zs.take n := ⟨_, rfl⟩
  have HZ : Hid _ := hz
  have K := K w hc
  have hrow : ∀ w1, Copy w w1 n zs → Row w1 w.heap.size ys := fun w1 h => by rw [ey]; exact h.row HZ.out
  rw [← ey] at hl hb h
  rw [← ey] at hcr
  have hp : p < n := by have := h.1; omega
  have F := fun w1 hr => first_at w.heap.size n n p ys w1 (by omega) hl hr h
  have L := fun w1 hr => lineEnd_crlf w.heap.size n n p ys w1 (by omega) hl hr hb h h1 hcr
  have HCR : Hid _ := hcr
  clear hcr
  have HL : Hid _ := hl
  clear hc hz ey hl
  go_enter Try.func3, Try.ntmps3
  go_wp2_with (first | (go_at_call 5; refine (bytes_yes _ _ _ _ hn).mono ?_; rintro e w' ⟨rfl, rfl⟩) | (go_at_call 6; refine K.mono ?_; rintro e w1 ⟨rfl, hcp⟩; have hr := hrow _ hcp; have hbel := hcp.2; clear hcp) | (go_at_call 7; refine (F _ hr).mono ?_; rintro e w' ⟨rfl, hw⟩; subst hw))
  go_loop [4, 5] (fun c i => ∃ k : Nat, c = .int .i64 (-1) ∧ i = .int .i64 k ∧ k + 1 ≤ p) (fun _ i => n - (intOf i).toNat)
  case atStart => exact ⟨0, rfl, rfl, by omega⟩
  case round =>
    obtain ⟨k, rfl, rfl, hk⟩ := hrel
    have hlt : k + 1 < n := by omega
    have hlt' : ((k : Int) + 1) < n := by omega
    by_cases hkp : k + 1 = p
    · subst hkp
      have hc0 := hr k (by have := HL.out; omega)
      have hc1 := hr (k + 1) (by have := HL.out; omega)
      rw [h.2.1] at hc1
      rw [show ys.getD k 0 = 13 from HCR.out] at hc0
      go_wp2_with (first | (go_at_call 8; refine (zzLineEnd (L _ hr)).mono ?_; rintro e w' ⟨rfl, hw⟩; subst hw))
      go_ret
      exact ⟨rfl, hbel⟩
    · have hkp' : k + 1 < p := by omega
      have hc0 := hr k (by have := HL.out; omega)
      have hc1 := hr (k + 1) (by have := HL.out; omega)
      obtain ⟨c0, e0⟩ : ∃ c, c = ys.getD k 0 := ⟨_, rfl⟩
      obtain ⟨c1, e1⟩ : ∃ c, c = ys.getD (k + 1) 0 := ⟨_, rfl⟩
      rw [← e0] at hc0
      rw [← e1] at hc1
      have b1 := getD_ne e1 (h.2.2 (k + 1) hkp')
      clear e0 e1 hkp
      rcases bool_two (c0 == 13) with b0 | b0
      all_goals
        go_wp2
        go_round
        case rel => exact ⟨k + 1, rfl, by go_num, by omega⟩
        case measure => simp [intOf]; omega


theorem walk (a0 : Option Addr) (len0 cap0 : Nat) (z0 : List Int) (w : World) (w0 : IsRow .u8 w a0 len0 cap0 z0) :
    Calls Try.prog 3 #[.slice a0 len0 cap0] w fun e w' => e = .returned (.bool true) ∧ Below w.heap.size w w' := by
  rcases w0 with ⟨rfl, rfl, rfl, rfl⟩ | ⟨x, rfl, hl, hm, hz, hcell, hwf⟩
  · exact walk_nil w
  · by_cases hbig : 1048576 < len0
    · exact walk_big _ _ _ _ hbig (Nat.le_trans hl hm)
    · have hn : len0 ≤ 1048576 := by omega
      have hb := bytes_take len0 hwf
      rcases lf_cases (z0.take len0) with h | ⟨p, h⟩
      · exact walk_none x len0 cap0 z0 w hn (by omega) hcell hb h
      · by_cases h1 : 1 ≤ p
        · by_cases hcr : (z0.take len0).getD (p - 1) 0 = 13
          · exact walk_crlf x len0 cap0 z0 w hn (by omega) hcell hb p h h1 hcr
          · exact walk_lf x len0 cap0 z0 w hn (by omega) hcell hb p h (Or.inr hcr)
        · exact walk_lf x len0 cap0 z0 w hn (by omega) hcell hb p h (Or.inl (by omega))

/-! ### THE ROW's STEP: WRITTEN OUT: LEAVE IT -/
set_option maxRecDepth 100000 in
theorem lifted (os : Os) (started : os.Started) (H : Type) (enc : TypeId × Value → H) :
    ReturnsInHanded {} Try.checked os 3 .any (Rows.fnLineEndOfIsThatOfTheFirstLFSpec.pre6 enc Try.prog Try.f3 Rows.fnLineEndOfIsThatOfTheFirstLFRow.domain false) (Rows.fnLineEndOfIsThatOfTheFirstLFSpec.post enc Try.prog Try.f3 false true false false) := by
  refine returnsInHanded_of_change (C := Try.checked) own started (by kernel_rfl) Try.func3
    (ChangeSpec.witness6 (enc := enc) (C := Try.checked) false ⟨#[], #[.slice none 0 0], []⟩ 8 (by kernel_rfl) (by kernel_rfl) (by kernel_rfl) (by kernel_rfl)) ?_
  intro W base args ds gs before hval0 hW hcnd _
  have hval : ∀ (j : Nat) t v, Try.f3.params[j]? = some t → args[j]? = some v → Value.okWide Try.prog W .any base t v := hval0
  have hW' := hW
  obtain ⟨p, q, hA0, hV, rfl, hfz, hnd⟩ := hW
  have hA : DataW.TrodAll enc Try.prog W 0 (fun _ => true) true Try.f3.params.toList args.toList ds p := hA0
  rw [Try.params3] at hA hval
  obtain ⟨v0, vs0, d0, ds0, p0, q0, hargs, rfl, rfl, h0, r0⟩ := trodAll_cons hA
  obtain ⟨rfl, rfl, rfl⟩ := trodAll_nil r0
  obtain rfl : args = #[v0] := by cases args; simp_all
  obtain ⟨rfl, rfl⟩ := trodVars_none hV
  obtain ⟨a0, len0, cap0, rfl⟩ := okWide_slice Try.underlying22 (hval 0 22 v0 rfl rfl)
  have k0 := h0
  have lt0 : ∀ x ∈ p0, x.block < W.heap.size := by obtain ⟨m, hm⟩ := k0; exact DataW.trod_lt m _ _ _ hm
  obtain ⟨z0, w0⟩ : ∃ zs, IsRow .u8 W a0 len0 cap0 zs := by
    obtain ⟨fuel, hf⟩ := h0
    rcases open_ints Try.underlying22 Try.underlying5 (by kernel_rfl) hf with ⟨hcs, _⟩ | ⟨x, l, c, zs, hcs, _, hl, hm, hz, _, hcell, hwz⟩
    · simp [Value.cells] at hcs
      obtain ⟨rfl, rfl, rfl⟩ := hcs
      exact ⟨[], .inl ⟨rfl, rfl, rfl, rfl⟩⟩
    · simp [Value.cells] at hcs
      obtain ⟨rfl, rfl, rfl⟩ := hcs
      exact ⟨zs, .inr ⟨_, rfl, hl, hm, by simpa using hz, hcell, hwz⟩⟩
  clear hA0 hval0
  refine (walk a0 len0 cap0 z0 W w0).mono fun e W' ⟨he, bel⟩ => ?_
  subst he
  exact ⟨_, rfl, _, _, _, [], _, [], hW', trodAll_mk1 (shut_bool Try.underlying4 _), (trodAll_cons_mk (Below.trod laidOut (by kernel_rfl) (of_decide_eq_true (by kernel_rfl)) k0 bel lt0) trodAll_mk0), rfl, bel.frame _, fun h => by cases h⟩

theorem over : Rows.fnLineEndOfIsThatOfTheFirstLFRow.holds Try.pinned (OpenSpec.ofChange Rows.fnLineEndOfIsThatOfTheFirstLFSpec) :=
  OpenClaim.holds_of_wide 3 Try.f3 rfl rfl rfl rfl rfl rfl rfl ⟨rfl, rfl, rfl, rfl, rfl⟩ rfl rfl rfl rfl rfl (by kernel_rfl) Try.func3 (by kernel_rfl)
    (of_decide_eq_true (by kernel_rfl)) (by unfold Func.isWrapper; first | (rw [if_pos (by decide +kernel)]; kernel_rfl) | (rw [if_neg (by decide +kernel)]; exact ⟨rfl, rfl⟩))
    (fun os started H enc _ => lifted os started H enc)

/-- ████ THE STATEMENT ████ -/
theorem proved : Rows.FnLineEndOfIsThatOfTheFirstLFSaid := over
#print axioms proved
end Go.Proofs.Qxb6604695a.fnLineEndOfIsThatOfTheFirstLF
