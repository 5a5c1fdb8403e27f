import Derived.Test.Qxb6604201aRows
import Derived.Test.Qxb6604201aValid
import Derived.WalkKit
import Derived.ProofKit
import Derived.OpenShut
import Derived.ShutString
namespace Go.Proofs.Qxb6604201a.fnScopeValidAgreesWithValidRequired
open Go.ChangeShapes Go.WideShapes Go.ChangeAt Go.RowKit
open Go.ChangeMaps (open_string shut_string)
set_option linter.unusedVariables false      -- a walk need not use every 'w<i>' (that an integer argument fits its kind)

theorem own : ownKnob Try.prog.godebug = none := by kernel_rfl


/-! ### The plain law, of a string -/
def starB (s : ByteArray) : Bool := Plain.starEnd s.data.toList
def swapped (s : ByteArray) : ByteArray := s.extract 0 (s.size - 1) ++ ⟨#[97]⟩
theorem swapped_data (s : ByteArray) : (swapped s).data.toList = s.data.toList.take (s.data.toList.length - 1) ++ [97] := by
  unfold swapped
  rw [ByteArray.data_append, Array.toList_append, before_data, Lib.size_eq]
theorem swapped_size {s : ByteArray} (h : 1 ≤ s.size) (hN : s.size ≤ 1048576) : (s.extract 0 (s.size - 1) ++ ⟨#[97]⟩ : ByteArray).size ≤ 1048576 := by
  rw [ByteArray.size_append, ByteArray.size_extract]
  have : (⟨#[97]⟩ : ByteArray).size = 1 := rfl
  omega
theorem law (s : ByteArray) : vvalidB s = (((s.toList == [42]) || vreqB s) || (starB s && vreqB (swapped s))) := by
  unfold vvalidB vreqB starB
  rw [swapped_data, Lib.toList_data]
  exact Plain.law_one _
theorem star_short {s : ByteArray} (h : s.size < 2) : starB s = false := by
  have e : ¬ 2 ≤ s.data.toList.length := by rw [← Lib.size_eq]; omega
  simp [starB, Plain.starEnd, -Array.length_toList, e]
theorem get_at (s : ByteArray) (k : Nat) (h : k < s.size) : s.data.toList[k]? = some s[k] := by
  rw [List.getElem?_eq_getElem (by rw [← Lib.size_eq]; exact h)]; rfl
theorem is58 (c : UInt8) : (some c == some 58) = ((c.toNat : Int) == 58) := by
  rw [Bool.eq_iff_iff]
  simp only [beq_iff_eq, Option.some.injEq]
  rw [← UInt8.toNat_inj]
  have : (58 : UInt8).toNat = 58 := rfl
  omega
theorem is42 (c : UInt8) : (some c == some 42) = ((c.toNat : Int) == 42) := by
  rw [Bool.eq_iff_iff]
  simp only [beq_iff_eq, Option.some.injEq]
  rw [← UInt8.toNat_inj]
  have : (42 : UInt8).toNat = 42 := rfl
  omega
theorem star_of {s : ByteArray} (h : 2 ≤ s.size) : starB s = (((s[s.size - 2].toNat : Int) == 58) && ((s[s.size - 1].toNat : Int) == 42)) := by
  have e : 2 ≤ s.data.toList.length := by rw [← Lib.size_eq]; exact h
  have l : s.data.toList.length = s.size := (Lib.size_eq s).symm
  unfold starB Plain.starEnd
  rw [l, get_at s (s.size - 2) (by omega), get_at s (s.size - 1) (by omega), decide_eq_true h, Bool.true_and]
  rw [is58, is42]

set_option maxHeartbeats 400000 in
theorem bytes_no (s : ByteArray) (w : World) (h : 1048576 < s.size) :
    Calls Try.prog 9 #[.string s] w fun e w' => e = .returned (.bool false) ∧ w' = w := by
  go_enter Try.func9, Try.ntmps9
  go_wp2
  go_ret
  exact ⟨rfl, rfl⟩
set_option maxHeartbeats 400000 in
theorem bytes_yes (s : ByteArray) (w : World) (h : s.size ≤ 1048576) :
    Calls Try.prog 9 #[.string s] w fun e w' => e = .returned (.bool true) ∧ w' = w := by
  go_enter Try.func9, Try.ntmps9
  go_wp2
  go_ret
  exact ⟨rfl, rfl⟩
theorem grown_drewN (w : World) (n : Nat) : Grown w (w.drewN n) := Grown.refl w

set_option maxHeartbeats 400000 in
theorem s0 (a0 : ByteArray) (w : World) (hsm : a0.size ≤ 1048576) (hm : a0.size < 2) (h0 : (a0.toList == [42]) = true) (hv : vvalidB a0 = true) :
    Calls Try.prog 4 #[.string a0] w fun e w' => e = .returned (.bool true) ∧ Grown w w' := by
  go_enter Try.func4, Try.ntmps4
  go_wp2_with (first | (go_at_call 9; refine (bytes_yes _ _ hsm).mono ?_; rintro e w' ⟨rfl, rfl⟩) | (go_at_call 10; refine (required_any _ _ hsm).mono ?_; rintro e w' ⟨rfl, n, rfl⟩) | (go_at_call 7; refine (valid_any _ _ hsm).mono ?_; rintro e w' ⟨rfl, n, rfl⟩))
  go_ret
  exact ⟨rfl, grown_drewN _ _⟩
set_option maxHeartbeats 400000 in
theorem s_true (a0 : ByteArray) (w : World) (hsm : a0.size ≤ 1048576) (hm : a0.size < 2) (h0 : (a0.toList == [42]) = false) (hr : vreqB a0 = true) (hv : vvalidB a0 = true) :
    Calls Try.prog 4 #[.string a0] w fun e w' => e = .returned (.bool true) ∧ Grown w w' := by
  go_enter Try.func4, Try.ntmps4
  go_wp2_with (first | (go_at_call 9; refine (bytes_yes _ _ hsm).mono ?_; rintro e w' ⟨rfl, rfl⟩) | (go_at_call 10; refine (required_any _ _ hsm).mono ?_; rintro e w' ⟨rfl, n, rfl⟩) | (go_at_call 7; refine (valid_any _ _ hsm).mono ?_; rintro e w' ⟨rfl, n, rfl⟩))
  go_ret
  exact ⟨rfl, grown_drewN _ _⟩
set_option maxHeartbeats 400000 in
theorem p_true (a0 : ByteArray) (w : World) (hsm : a0.size ≤ 1048576) (hm : 2 ≤ a0.size) (hp : ((a0[a0.size - 2].toNat : Int) == 58) = false) (h0 : (a0.toList == [42]) = false) (hr : vreqB a0 = true) (hv : vvalidB a0 = true) :
    Calls Try.prog 4 #[.string a0] w fun e w' => e = .returned (.bool true) ∧ Grown w w' := by
  go_enter Try.func4, Try.ntmps4
  go_wp2_with (first | (go_at_call 9; refine (bytes_yes _ _ hsm).mono ?_; rintro e w' ⟨rfl, rfl⟩) | (go_at_call 10; refine (required_any _ _ hsm).mono ?_; rintro e w' ⟨rfl, n, rfl⟩) | (go_at_call 7; refine (valid_any _ _ hsm).mono ?_; rintro e w' ⟨rfl, n, rfl⟩))
  go_ret
  exact ⟨rfl, grown_drewN _ _⟩
set_option maxHeartbeats 400000 in
theorem q_true (a0 : ByteArray) (w : World) (hsm : a0.size ≤ 1048576) (hm : 2 ≤ a0.size) (hp : ((a0[a0.size - 2].toNat : Int) == 58) = true) (hq : ((a0[a0.size - 1].toNat : Int) == 42) = false) (h0 : (a0.toList == [42]) = false) (hr : vreqB a0 = true) (hv : vvalidB a0 = true) :
    Calls Try.prog 4 #[.string a0] w fun e w' => e = .returned (.bool true) ∧ Grown w w' := by
  go_enter Try.func4, Try.ntmps4
  go_wp2_with (first | (go_at_call 9; refine (bytes_yes _ _ hsm).mono ?_; rintro e w' ⟨rfl, rfl⟩) | (go_at_call 10; refine (required_any _ _ hsm).mono ?_; rintro e w' ⟨rfl, n, rfl⟩) | (go_at_call 7; refine (valid_any _ _ hsm).mono ?_; rintro e w' ⟨rfl, n, rfl⟩))
  go_ret
  exact ⟨rfl, grown_drewN _ _⟩
set_option maxHeartbeats 400000 in
theorem t_true_true (a0 : ByteArray) (w : World) (hsm : a0.size ≤ 1048576) (hm : 2 ≤ a0.size) (hp : ((a0[a0.size - 2].toNat : Int) == 58) = true) (hq : ((a0[a0.size - 1].toNat : Int) == 42) = true) (ht : vreqB (a0.extract 0 (a0.size - 1) ++ ⟨#[97]⟩) = true) (h0 : (a0.toList == [42]) = false) (hr : vreqB a0 = true) (hv : vvalidB a0 = true) :
    Calls Try.prog 4 #[.string a0] w fun e w' => e = .returned (.bool true) ∧ Grown w w' := by
  have hsw := swapped_size (s := a0) (by omega) hsm
  go_enter Try.func4, Try.ntmps4
  go_wp2_with (first | (go_at_call 9; refine (bytes_yes _ _ hsm).mono ?_; rintro e w' ⟨rfl, rfl⟩) | (go_at_call 10; refine (required_any _ _ (by first | exact hsm | exact hsw)).mono ?_; rintro e w' ⟨rfl, n, rfl⟩) | (go_at_call 7; refine (valid_any _ _ hsm).mono ?_; rintro e w' ⟨rfl, n, rfl⟩))
  go_ret
  exact ⟨rfl, grown_drewN _ _⟩
set_option maxHeartbeats 400000 in
theorem t_true_false (a0 : ByteArray) (w : World) (hsm : a0.size ≤ 1048576) (hm : 2 ≤ a0.size) (hp : ((a0[a0.size - 2].toNat : Int) == 58) = true) (hq : ((a0[a0.size - 1].toNat : Int) == 42) = true) (ht : vreqB (a0.extract 0 (a0.size - 1) ++ ⟨#[97]⟩) = false) (h0 : (a0.toList == [42]) = false) (hr : vreqB a0 = true) (hv : vvalidB a0 = true) :
    Calls Try.prog 4 #[.string a0] w fun e w' => e = .returned (.bool true) ∧ Grown w w' := by
  have hsw := swapped_size (s := a0) (by omega) hsm
  go_enter Try.func4, Try.ntmps4
  go_wp2_with (first | (go_at_call 9; refine (bytes_yes _ _ hsm).mono ?_; rintro e w' ⟨rfl, rfl⟩) | (go_at_call 10; refine (required_any _ _ (by first | exact hsm | exact hsw)).mono ?_; rintro e w' ⟨rfl, n, rfl⟩) | (go_at_call 7; refine (valid_any _ _ hsm).mono ?_; rintro e w' ⟨rfl, n, rfl⟩))
  go_ret
  exact ⟨rfl, grown_drewN _ _⟩
set_option maxHeartbeats 400000 in
theorem s_false (a0 : ByteArray) (w : World) (hsm : a0.size ≤ 1048576) (hm : a0.size < 2) (h0 : (a0.toList == [42]) = false) (hr : vreqB a0 = false) (hv : vvalidB a0 = false) :
    Calls Try.prog 4 #[.string a0] w fun e w' => e = .returned (.bool true) ∧ Grown w w' := by
  go_enter Try.func4, Try.ntmps4
  go_wp2_with (first | (go_at_call 9; refine (bytes_yes _ _ hsm).mono ?_; rintro e w' ⟨rfl, rfl⟩) | (go_at_call 10; refine (required_any _ _ hsm).mono ?_; rintro e w' ⟨rfl, n, rfl⟩) | (go_at_call 7; refine (valid_any _ _ hsm).mono ?_; rintro e w' ⟨rfl, n, rfl⟩))
  go_ret
  exact ⟨rfl, grown_drewN _ _⟩
set_option maxHeartbeats 400000 in
theorem p_false (a0 : ByteArray) (w : World) (hsm : a0.size ≤ 1048576) (hm : 2 ≤ a0.size) (hp : ((a0[a0.size - 2].toNat : Int) == 58) = false) (h0 : (a0.toList == [42]) = false) (hr : vreqB a0 = false) (hv : vvalidB a0 = false) :
    Calls Try.prog 4 #[.string a0] w fun e w' => e = .returned (.bool true) ∧ Grown w w' := by
  go_enter Try.func4, Try.ntmps4
  go_wp2_with (first | (go_at_call 9; refine (bytes_yes _ _ hsm).mono ?_; rintro e w' ⟨rfl, rfl⟩) | (go_at_call 10; refine (required_any _ _ hsm).mono ?_; rintro e w' ⟨rfl, n, rfl⟩) | (go_at_call 7; refine (valid_any _ _ hsm).mono ?_; rintro e w' ⟨rfl, n, rfl⟩))
  go_ret
  exact ⟨rfl, grown_drewN _ _⟩
set_option maxHeartbeats 400000 in
theorem q_false (a0 : ByteArray) (w : World) (hsm : a0.size ≤ 1048576) (hm : 2 ≤ a0.size) (hp : ((a0[a0.size - 2].toNat : Int) == 58) = true) (hq : ((a0[a0.size - 1].toNat : Int) == 42) = false) (h0 : (a0.toList == [42]) = false) (hr : vreqB a0 = false) (hv : vvalidB a0 = false) :
    Calls Try.prog 4 #[.string a0] w fun e w' => e = .returned (.bool true) ∧ Grown w w' := by
  go_enter Try.func4, Try.ntmps4
  go_wp2_with (first | (go_at_call 9; refine (bytes_yes _ _ hsm).mono ?_; rintro e w' ⟨rfl, rfl⟩) | (go_at_call 10; refine (required_any _ _ hsm).mono ?_; rintro e w' ⟨rfl, n, rfl⟩) | (go_at_call 7; refine (valid_any _ _ hsm).mono ?_; rintro e w' ⟨rfl, n, rfl⟩))
  go_ret
  exact ⟨rfl, grown_drewN _ _⟩
set_option maxHeartbeats 400000 in
theorem t_false_true (a0 : ByteArray) (w : World) (hsm : a0.size ≤ 1048576) (hm : 2 ≤ a0.size) (hp : ((a0[a0.size - 2].toNat : Int) == 58) = true) (hq : ((a0[a0.size - 1].toNat : Int) == 42) = true) (ht : vreqB (a0.extract 0 (a0.size - 1) ++ ⟨#[97]⟩) = true) (h0 : (a0.toList == [42]) = false) (hr : vreqB a0 = false) (hv : vvalidB a0 = true) :
    Calls Try.prog 4 #[.string a0] w fun e w' => e = .returned (.bool true) ∧ Grown w w' := by
  have hsw := swapped_size (s := a0) (by omega) hsm
  go_enter Try.func4, Try.ntmps4
  go_wp2_with (first | (go_at_call 9; refine (bytes_yes _ _ hsm).mono ?_; rintro e w' ⟨rfl, rfl⟩) | (go_at_call 10; refine (required_any _ _ (by first | exact hsm | exact hsw)).mono ?_; rintro e w' ⟨rfl, n, rfl⟩) | (go_at_call 7; refine (valid_any _ _ hsm).mono ?_; rintro e w' ⟨rfl, n, rfl⟩))
  go_ret
  exact ⟨rfl, grown_drewN _ _⟩
set_option maxHeartbeats 400000 in
theorem t_false_false (a0 : ByteArray) (w : World) (hsm : a0.size ≤ 1048576) (hm : 2 ≤ a0.size) (hp : ((a0[a0.size - 2].toNat : Int) == 58) = true) (hq : ((a0[a0.size - 1].toNat : Int) == 42) = true) (ht : vreqB (a0.extract 0 (a0.size - 1) ++ ⟨#[97]⟩) = false) (h0 : (a0.toList == [42]) = false) (hr : vreqB a0 = false) (hv : vvalidB a0 = false) :
    Calls Try.prog 4 #[.string a0] w fun e w' => e = .returned (.bool true) ∧ Grown w w' := by
  have hsw := swapped_size (s := a0) (by omega) hsm
  go_enter Try.func4, Try.ntmps4
  go_wp2_with (first | (go_at_call 9; refine (bytes_yes _ _ hsm).mono ?_; rintro e w' ⟨rfl, rfl⟩) | (go_at_call 10; refine (required_any _ _ (by first | exact hsm | exact hsw)).mono ?_; rintro e w' ⟨rfl, n, rfl⟩) | (go_at_call 7; refine (valid_any _ _ hsm).mono ?_; rintro e w' ⟨rfl, n, rfl⟩))
  go_ret
  exact ⟨rfl, grown_drewN _ _⟩

theorem star_one {s : ByteArray} (h : (s.toList == [42]) = true) : s.size < 2 := by
  rw [Lib.toList_data] at h
  have e : s.data.toList = [42] := beq_iff_eq.1 h
  rw [Lib.size_eq, e]
  decide
theorem bool_two (b : Bool) : b = true ∨ b = false := by cases b <;> simp

theorem walk (a0 : ByteArray) (w0 : a0.size ≤ maxLen) (w : World) :
    Calls Try.prog 4 #[.string a0] w fun e w' => e = .returned (.bool true) ∧ Grown w w' := by
  by_cases hbig : 1048576 < a0.size
  · go_enter Try.func4, Try.ntmps4
    go_wp2_with (go_at_call 9; refine (bytes_no _ _ hbig).mono ?_; rintro e w' ⟨rfl, rfl⟩)
    go_ret
    exact ⟨rfl, Grown.refl _⟩
  · have hsm : a0.size ≤ 1048576 := by omega
    have L := law a0
    rcases bool_two (a0.toList == [42]) with h0 | h0
    · exact s0 a0 w hsm (star_one h0) h0 (by rw [L, h0]; simp)
    · rw [h0] at L
      rcases bool_two (vreqB a0) with hr | hr <;> rw [hr] at L
      · by_cases hm : a0.size < 2
        · exact s_true a0 w hsm hm h0 hr (by rw [L]; simp)
        · have hm' : 2 ≤ a0.size := by omega
          rcases bool_two ((a0[a0.size - 2].toNat : Int) == 58) with hp | hp
          · rcases bool_two ((a0[a0.size - 1].toNat : Int) == 42) with hq | hq
            · rcases bool_two (vreqB (swapped a0)) with ht | ht
              · exact t_true_true a0 w hsm hm' hp hq ht h0 hr (by rw [L]; simp)
              · exact t_true_false a0 w hsm hm' hp hq ht h0 hr (by rw [L]; simp)
            · exact q_true a0 w hsm hm' hp hq h0 hr (by rw [L]; simp)
          · exact p_true a0 w hsm hm' hp h0 hr (by rw [L]; simp)
      · by_cases hm : a0.size < 2
        · exact s_false a0 w hsm hm h0 hr (by rw [L, star_short hm]; simp)
        · have hm' : 2 ≤ a0.size := by omega
          rw [star_of hm'] at L
          rcases bool_two ((a0[a0.size - 2].toNat : Int) == 58) with hp | hp <;> rw [hp] at L
          · rcases bool_two ((a0[a0.size - 1].toNat : Int) == 42) with hq | hq <;> rw [hq] at L
            · rcases bool_two (vreqB (swapped a0)) with ht | ht <;> rw [ht] at L
              · exact t_false_true a0 w hsm hm' hp hq ht h0 hr (by rw [L]; simp)
              · exact t_false_false a0 w hsm hm' hp hq ht h0 hr (by rw [L]; simp)
            · exact q_false a0 w hsm hm' hp hq h0 hr (by rw [L]; simp)
          · exact p_false a0 w hsm hm' hp h0 hr (by rw [L]; simp)

/-! ### THE ROW's STEP: WRITTEN OUT: LEAVE IT -/
set_option maxRecDepth 100000 in
theorem lifted (os : Os) (started : os.Started) (H : Type) (enc : TypeId × Value → H) :
    ReturnsInHanded {} Try.checked os 4 .any (Rows.fnScopeValidAgreesWithValidRequiredSpec.pre6 enc Try.prog Try.f4 Rows.fnScopeValidAgreesWithValidRequiredRow.domain false) (Rows.fnScopeValidAgreesWithValidRequiredSpec.post enc Try.prog Try.f4 false true false false) := by
  refine returnsInHanded_of_change (C := Try.checked) own started (by kernel_rfl) Try.func4
    (ChangeSpec.witness6 (enc := enc) (C := Try.checked) false ⟨#[], #[.string ByteArray.empty], []⟩ 8 (by kernel_rfl) (by kernel_rfl) (by kernel_rfl) (by kernel_rfl)) ?_
  intro W base args ds gs before hval0 hW hcnd _
  have hval : ∀ (j : Nat) t v, Try.f4.params[j]? = some t → args[j]? = some v → Value.okWide Try.prog W .any base t v := hval0
  have hW' := hW
  obtain ⟨p, q, hA0, hV, rfl, hfz, hnd⟩ := hW
  have hA : DataW.TrodAll enc Try.prog W 0 (fun _ => true) true Try.f4.params.toList args.toList ds p := hA0
  rw [Try.params4] at hA hval
  obtain ⟨v0, vs0, d0, ds0, p0, q0, hargs, rfl, rfl, h0, r0⟩ := trodAll_cons hA
  obtain ⟨rfl, rfl, rfl⟩ := trodAll_nil r0
  obtain rfl : args = #[v0] := by cases args; simp_all
  obtain ⟨rfl, rfl⟩ := trodVars_none hV
  obtain ⟨a0, rfl, rfl, rfl, w0⟩ := open_string Try.underlying9 (hval 0 9 v0 rfl rfl) h0
  clear hA0 hval0
  simp only [List.append_nil] at hW'
  refine (walk a0 w0 W).mono fun e W' ⟨he, hg⟩ => ?_
  subst he
  exact ⟨_, rfl, post_of_same (pa := []) (pv := []) hW' (fun _ _ _ => (trodAll_cons_mk (shut_bool Try.underlying4 _) trodAll_mk0)) (fun sp _ => (trodAll_cons_mk (shut_string Try.underlying9 w0) trodAll_mk0)) (fun _ _ => rfl) rfl
    (hg.frame _) hg.2.1 (ok_one (by kernel_rfl) rfl (okWide_bool_mk Try.underlying4 _))⟩

theorem over : Rows.fnScopeValidAgreesWithValidRequiredRow.holds Try.pinned (OpenSpec.ofChange Rows.fnScopeValidAgreesWithValidRequiredSpec) :=
  OpenClaim.holds_of_wide 4 Try.f4 rfl rfl rfl rfl rfl rfl rfl ⟨rfl, rfl, rfl, rfl, rfl⟩ rfl rfl rfl rfl rfl (by kernel_rfl) Try.func4 (by kernel_rfl)
    (of_decide_eq_true (by kernel_rfl)) (by unfold Func.isWrapper; first | (rw [if_pos (by decide +kernel)]; kernel_rfl) | (rw [if_neg (by decide +kernel)]; exact ⟨rfl, rfl⟩))
    (fun os started H enc _ => lifted os started H enc)

/-- ████ THE STATEMENT ████ -/
theorem proved : Rows.FnScopeValidAgreesWithValidRequiredSaid :=
  over
#print axioms proved
end Go.Proofs.Qxb6604201a.fnScopeValidAgreesWithValidRequired
