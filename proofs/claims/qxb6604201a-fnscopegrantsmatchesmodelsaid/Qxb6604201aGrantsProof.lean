import Derived.Test.Qxb6604201aRows
import Derived.Test.Qxb6604201aMGrants
import Derived.WalkKit
import Derived.ProofKit
import Derived.OpenShut
import Derived.ShutString
import Derived.SliceStrings
import Derived.ChangeOld
import Derived.Below
namespace Go.Proofs.Qxb6604201a.fnScopeGrantsMatchesModel
open Go.ChangeShapes Go.WideShapes Go.ChangeAt Go.RowKit
open Go.ChangeMaps (open_string shut_string)
set_option linter.unusedVariables false

theorem own : ownKnob Try.prog.godebug = none := by kernel_rfl
theorem laidOut : laidOutB Try.prog = true := by kernel_rfl

theorem strs_drewN {w : World} {ao : Option Addr} {n : Nat} {ss : List ByteArray} (h : Strs w ao n ss) (k : Nat) : Strs (w.drewN k) ao n ss := h
theorem below_drewN {B : Nat} {w w1 : World} (h : Below B w w1) (k : Nat) : Below B w (w1.drewN k) := ⟨h.os, h.tape, h.output, h.size, h.block⟩

/-! ### The walk -/
set_option maxHeartbeats 400000 in
theorem walk_far (a0 : Option Addr) (n cap : Nat) (ss : List ByteArray) (r : ByteArray) (w : World) (hn : n ≤ 9223372036854775807) (hr : r.size ≤ 9223372036854775807) (hs : Strs w a0 n ss) (hz : Sized ss) (hb : 65536 < n) :
    Calls Try.prog 5 #[.slice a0 n cap, .string r] w fun e w' => e = .returned (.bool true) ∧ Below w.heap.size w w' := by
  go_enter Try.func5, Try.ntmps5
  go_wp2_with (first | (go_at_call 11; refine (bytes11_any _ _ _ ss _ _ hn hr hs hz).mono ?_; rintro e w1 ⟨⟨b, rfl⟩, hw⟩; subst w1))
  all_goals
    go_ret
    exact ⟨rfl, Below.refl _ _⟩
set_option maxHeartbeats 400000 in
theorem walk_long (a0 : Option Addr) (n cap : Nat) (ss : List ByteArray) (r : ByteArray) (w : World) (hn : n ≤ 65536) (hr : r.size ≤ 9223372036854775807) (hs : Strs w a0 n ss) (hz : Sized ss) (hb : 1048576 < r.size) :
    Calls Try.prog 5 #[.slice a0 n cap, .string r] w fun e w' => e = .returned (.bool true) ∧ Below w.heap.size w w' := by
  have hn' : n ≤ 9223372036854775807 := by omega
  go_enter Try.func5, Try.ntmps5
  go_wp2_with (first | (go_at_call 11; refine (bytes11_any _ _ _ ss _ _ hn' hr hs hz).mono ?_; rintro e w1 ⟨⟨b, rfl⟩, hw⟩; subst w1))
  all_goals
    go_ret
    exact ⟨rfl, Below.refl _ _⟩
set_option maxHeartbeats 400000 in
theorem walk_nil (r : ByteArray) (w : World) (hr : r.size ≤ 1048576) :
    Calls Try.prog 5 #[.slice none 0 0, .string r] w fun e w' => e = .returned (.bool true) ∧ Below w.heap.size w w' := by
  have hs : ∀ w, Strs w none 0 [] := fun w => ⟨rfl, fun i h => absurd h (Nat.not_lt_zero _)⟩
  have hz : Sized [] := sized_of (fun s h => by cases h)
  have hr' : r.size ≤ 9223372036854775807 := by omega
  have G := fun w => grants_any none 0 0 [] r w (by omega) hr (hs w) hz
  have M := fun w => mgrants_any none 0 0 [] r w (by omega) hr (hs w) hz
  rw [law] at G
  obtain ⟨b, eb⟩ : ∃ b, b = mgrantsB [] r := ⟨_, rfl⟩
  rw [← eb] at G M
  clear eb
  go_enter Try.func5, Try.ntmps5
  go_wp2_with (first | (go_at_call 11; refine (bytes11_any _ _ _ [] _ _ (by omega) hr' (hs _) hz).mono ?_; rintro e w1 ⟨⟨b, rfl⟩, hw⟩; subst w1) | (go_at_call 12; refine (heldBytes_any _ _ _ [] _ (by omega) (hs _) hz).mono ?_; rintro e w1 ⟨⟨t, ht0, ht1, rfl⟩, hw⟩; subst w1) | (go_at_call 13; refine (copy_nil _).mono ?_; rintro e w1 ⟨rfl, hw⟩; subst w1) | (go_at_call 14; refine (G _).mono ?_; rintro e w1 ⟨rfl, n1, rfl⟩) | (go_at_call 15; refine (M _).mono ?_; rintro e w1 ⟨rfl, n2, rfl⟩))
  all_goals
    go_ret
    first
      | exact ⟨rfl, Below.refl _ _⟩
      | exact ⟨rfl, below_drewN (Below.refl _ _) _⟩
set_option maxHeartbeats 400000 in
theorem walk_row (x : Addr) (n cap : Nat) (ss : List ByteArray) (r : ByteArray) (w : World) (hn : n ≤ 65536) (hr : r.size ≤ 1048576) (hs : Strs w (some x) n ss) (hz : Sized ss) :
    Calls Try.prog 5 #[.slice (some x) n cap, .string r] w fun e w' => e = .returned (.bool true) ∧ Below w.heap.size w w' := by
  have hn' : n ≤ 9223372036854775807 := by omega
  have hr' : r.size ≤ 9223372036854775807 := by omega
  have K := copy_row x n cap ss w (by omega) hs
  have G := fun w1 hs => grants_any (some ⟨w.heap.size, 0, none⟩) n n ss r w1 hn hr hs hz
  have M := fun w1 hs => mgrants_any (some ⟨w.heap.size, 0, none⟩) n n ss r w1 hn hr hs hz
  rw [law] at G
  obtain ⟨b, eb⟩ : ∃ b, b = mgrantsB ss r := ⟨_, rfl⟩
  rw [← eb] at G M
  clear eb
  go_enter Try.func5, Try.ntmps5
  go_wp2_with (first | (go_at_call 11; refine (bytes11_any _ _ _ ss _ _ hn' hr' hs hz).mono ?_; rintro e w1 ⟨⟨b, rfl⟩, hw⟩; subst w1) | (go_at_call 12; refine (heldBytes_any _ _ _ ss _ hn hs hz).mono ?_; rintro e w1 ⟨⟨t, ht0, ht1, rfl⟩, hw⟩; subst w1) | (go_at_call 13; refine K.mono ?_; rintro e w1 ⟨rfl, hst, hbel⟩) | (go_at_call 14; refine (G _ hst).mono ?_; rintro e w2 ⟨rfl, n1, rfl⟩) | (go_at_call 15; refine (M _ (strs_drewN hst _)).mono ?_; rintro e w3 ⟨rfl, n2, rfl⟩))
  all_goals
    go_ret
    first
      | exact ⟨rfl, below_drewN (by assumption) _⟩
      | exact ⟨rfl, Below.refl _ _⟩

theorem walk (a0 : Option Addr) (n cap : Nat) (ss : List ByteArray) (r : ByteArray) (w : World) (hn : n ≤ 9223372036854775807) (hr : r.size ≤ 9223372036854775807) (hs : Strs w a0 n ss) (hz : Sized ss) (h0 : a0 = none → n = 0 ∧ cap = 0) :
    Calls Try.prog 5 #[.slice a0 n cap, .string r] w fun e w' => e = .returned (.bool true) ∧ Below w.heap.size w w' := by
  by_cases h1 : 65536 < n
  · exact walk_far a0 n cap ss r w hn hr hs hz h1
  · by_cases h2 : 1048576 < r.size
    · exact walk_long a0 n cap ss r w (by omega) hr hs hz h2
    · match a0, h0, hs with
      | none, h0, hs =>
        obtain ⟨rfl, rfl⟩ := h0 rfl
        exact walk_nil r w (by omega)
      | some x, _, hs => exact walk_row x n cap ss r w (by omega) (by omega) hs hz

theorem strs_of {w : World} {x : Addr} {ss : List ByteArray} {n : Nat} (hl : n ≤ ss.length) (h : ∀ i, i < ss.length → w.cell? (x.add i) = some (.string (ss.getD i ByteArray.empty))) : Strs w (some x) n (ss.take n) := by
  refine ⟨by rw [List.length_take]; omega, fun i hi => ?_⟩
  obtain ⟨b, off, spot⟩ := x
  have hspot : spot = none := by simpa [Addr.add] using World.cell?_spot (h 0 (by omega))
  subst hspot
  refine ⟨b, off, rfl, ?_⟩
  rw [← Go.WideShapes.add_plain, h i (by omega)]
  simp [hi]

/-! ### The row's step -/
set_option maxRecDepth 100000 in
theorem lifted (os : Os) (started : os.Started) (H : Type) (enc : TypeId × Value → H) :
    ReturnsInHanded {} Try.checked os 5 .any (Rows.fnScopeGrantsMatchesModelSpec.pre6 enc Try.prog Try.f5 Rows.fnScopeGrantsMatchesModelRow.domain false) (Rows.fnScopeGrantsMatchesModelSpec.post enc Try.prog Try.f5 false true false false) := by
  refine returnsInHanded_of_change (C := Try.checked) own started (by kernel_rfl) Try.func5
    (ChangeSpec.witness6 (enc := enc) (C := Try.checked) false ⟨#[], #[.slice none 0 0, .string ByteArray.empty], []⟩ 8 (by kernel_rfl) (by kernel_rfl) (by kernel_rfl) (by kernel_rfl)) ?_
  intro W base args ds gs before hval0 hW hcnd _
  have hval : ∀ (j : Nat) t v, Try.f5.params[j]? = some t → args[j]? = some v → Value.okWide Try.prog W .any base t v := hval0
  have hW' := hW
  obtain ⟨p, q, hA0, hV, rfl, hfz, hnd⟩ := hW
  have hA : DataW.TrodAll enc Try.prog W 0 (fun _ => true) true Try.f5.params.toList args.toList ds p := hA0
  rw [Try.params5] at hA hval
  obtain ⟨v0, vs0, d0, ds0, p0, q0, hargs, rfl, rfl, h0, r0⟩ := trodAll_cons hA
  obtain ⟨v1, vs1, d1, ds1, p1, q1, rfl, rfl, rfl, h1, r1⟩ := trodAll_cons r0
  obtain ⟨rfl, rfl, rfl⟩ := trodAll_nil r1
  obtain rfl : args = #[v0, v1] := by cases args; simp_all
  obtain ⟨rfl, rfl⟩ := trodVars_none hV
  obtain ⟨a0, len0, cap0, rfl⟩ := okWide_slice Try.underlying23 (hval 0 23 v0 rfl rfl)
  obtain ⟨a1, rfl, rfl, rfl, w1⟩ := open_string Try.underlying9 (hval 1 9 v1 rfl rfl) h1
  have k0 := h0
  have lt0 : ∀ x ∈ p0, x.block < W.heap.size := by obtain ⟨m, hm⟩ := k0; exact DataW.trod_lt m _ _ _ hm
  obtain ⟨ss, hn, hs, hz, hnil⟩ : ∃ ss, len0 ≤ 9223372036854775807 ∧ Strs W a0 len0 ss ∧ Sized ss ∧ (a0 = none → len0 = 0 ∧ cap0 = 0) := by
    obtain ⟨fuel, hf⟩ := h0
    rcases open_strings Try.underlying23 Try.underlying9 (by kernel_rfl) hf with ⟨hcs, _⟩ | ⟨x, l, c, zs, hcs, _, hl, hm, hz, _, hcell, hwz⟩
    · simp [Value.cells] at hcs
      obtain ⟨rfl, rfl, rfl⟩ := hcs
      exact ⟨[], by omega, ⟨rfl, fun i h => absurd h (Nat.not_lt_zero _)⟩, sized_of (fun s h => by cases h), fun _ => ⟨rfl, rfl⟩⟩
    · simp [Value.cells] at hcs
      obtain ⟨rfl, rfl, rfl⟩ := hcs
      have hz' : zs.length = cap0 := by simpa using hz
      unfold maxLen at hm
      exact ⟨zs.take len0, by omega, strs_of (by omega) hcell, sized_of (fun s h => hwz s (List.mem_of_mem_take h)), fun h => by cases h⟩
  have w1' : a1.size ≤ 9223372036854775807 := by unfold maxLen at w1; omega
  clear hA0 hval0
  refine (walk a0 len0 cap0 ss a1 W hn w1' hs hz hnil).mono fun e W' ⟨he, bel⟩ => ?_
  subst he
  exact ⟨_, rfl, _, _, _, [], _, [], hW', trodAll_mk1 (shut_bool Try.underlying4 _), (trodAll_cons_mk (Below.trod laidOut (by kernel_rfl) (of_decide_eq_true (by kernel_rfl)) k0 bel lt0) (trodAll_cons_mk (shut_string Try.underlying9 w1) trodAll_mk0)), rfl, bel.frame _, fun h => by cases h⟩

theorem over : Rows.fnScopeGrantsMatchesModelRow.holds Try.pinned (OpenSpec.ofChange Rows.fnScopeGrantsMatchesModelSpec) :=
  OpenClaim.holds_of_wide 5 Try.f5 rfl rfl rfl rfl rfl rfl rfl ⟨rfl, rfl, rfl, rfl, rfl⟩ rfl rfl rfl rfl rfl (by kernel_rfl) Try.func5 (by kernel_rfl)
    (of_decide_eq_true (by kernel_rfl)) (by unfold Func.isWrapper; first | (rw [if_pos (by decide +kernel)]; kernel_rfl) | (rw [if_neg (by decide +kernel)]; exact ⟨rfl, rfl⟩))
    (fun os started H enc _ => lifted os started H enc)

/-- The statement. -/
theorem proved : Rows.FnScopeGrantsMatchesModelSaid := over
#print axioms proved
end Go.Proofs.Qxb6604201a.fnScopeGrantsMatchesModel
