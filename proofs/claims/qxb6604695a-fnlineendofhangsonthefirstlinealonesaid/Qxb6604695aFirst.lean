import Derived.Test.Qxb6604695aClone
namespace Go.Proofs.Qxb6604695a
open Go.RowKit

/-! ### firstLF -/
set_option maxHeartbeats 400000 in
theorem first_nil (w : World) :
    Calls Try.prog 7 #[.slice none 0 0] w fun e w' => e = .returned (.int .i64 (-1)) ∧ w' = w := by
  go_enter Try.func7, Try.ntmps7
  go_wp2
  refine wp_loop_rounds 1 ?_
  rw [rounds_succ]
  go_wp2
  go_ret
  exact ⟨rfl, rfl⟩
theorem getD_ne {zs : List Int} {k : Nat} {c : Int} (ec : c = zs.getD k 0) (h : zs.getD k 0 ≠ 10) : (c == 10) = false := beq_eq_false_iff_ne.2 (by rw [ec]; exact h)
set_option maxHeartbeats 400000 in
theorem first_none (B n cap : Nat) (zs : List Int) (w : World) (hn : n ≤ 4194304) (hz : zs.length = n) (hr : Row w B zs) (h : NoLF zs) :
    Calls Try.prog 7 #[.slice (some ⟨B, 0, none⟩) n cap] w fun e w' => e = .returned (.int .i64 (-1)) ∧ w' = w := by
  have HZ : Hid _ := hz
  clear hz
  go_enter Try.func7, Try.ntmps7
  go_wp2
  go_loop [3] (fun i => ∃ k : Nat, k ≤ n ∧ i = .int .i64 k) (fun i => n - (intOf i).toNat)
  case atStart => exact ⟨0, Nat.zero_le _, rfl⟩
  case round =>
    obtain ⟨k, hk, rfl⟩ := hrel
    by_cases hlt : k < n
    · have hck := hr k (by have := HZ.out; omega)
      obtain ⟨c, ec⟩ : ∃ c, c = zs.getD k 0 := ⟨_, rfl⟩
      have hne := getD_ne ec (h k (by have := HZ.out; omega))
      rw [← ec] at hck
      clear ec
      go_wp2
      go_round
      case rel => exact ⟨k + 1, by omega, by go_num⟩
      case measure => simp [intOf]; omega
    · go_wp2
      go_ret
      exact ⟨rfl, rfl⟩
set_option maxHeartbeats 400000 in
theorem first_at (B n cap p : Nat) (zs : List Int) (w : World) (hn : n ≤ 4194304) (hz : zs.length = n) (hr : Row w B zs) (h : LFAt zs p) :
    Calls Try.prog 7 #[.slice (some ⟨B, 0, none⟩) n cap] w fun e w' => e = .returned (.int .i64 p) ∧ w' = w := by
  have hp : p < n := by have := h.1; omega
  have HZ : Hid _ := hz
  clear hz
  go_enter Try.func7, Try.ntmps7
  go_wp2
  go_loop [3] (fun i => ∃ k : Nat, k ≤ p ∧ i = .int .i64 k) (fun i => n - (intOf i).toNat)
  case atStart => exact ⟨0, Nat.zero_le _, rfl⟩
  case round =>
    obtain ⟨k, hk, rfl⟩ := hrel
    have hlt : k < n := by omega
    have hck := hr k (by have := HZ.out; omega)
    by_cases hkp : k = p
    · subst hkp
      rw [h.2.1] at hck
      go_wp2
      go_ret
      exact ⟨rfl, rfl⟩
    · obtain ⟨c, ec⟩ : ∃ c, c = zs.getD k 0 := ⟨_, rfl⟩
      have hne := getD_ne ec (h.2.2 k (by omega))
      have hlp : k < p := by omega
      rw [← ec] at hck
      clear ec hkp
      go_wp2
      go_round
      case rel => exact ⟨k + 1, by omega, by go_num⟩
      case measure => simp [intOf]; omega

/-! ### ZZlineEndOf -/
theorem zzLineEnd {a : Option Addr} {n c : Nat} {w : World} {l : ByteArray} (h : Calls Try.prog 12 #[.slice a n c] w fun e w' => e = .returned (.string l) ∧ w' = w) :
    Calls Try.prog 8 #[.slice a n c] w fun e w' => e = .returned (.string l) ∧ w' = w := by
  go_enter Try.func8, Try.ntmps8
  go_wp2_with (go_at_call 12; refine h.mono ?_; rintro e w' ⟨rfl, hw⟩; subst hw)
  go_ret
  exact ⟨rfl, rfl⟩

/-! ### From the copy to a row -/
theorem Copy.row {w w' : World} {n : Nat} {zs : List Int} (h : Copy w w' n zs) (hz : n ≤ zs.length) : Row w' w.heap.size (zs.take n) := by
  intro i hi
  have hin : i < n := by rw [List.length_take] at hi; omega
  rw [h.1.cellAt i (by omega), List.getElem?_map, List.getElem?_eq_getElem hi]
  simp [hin, List.getElem?_eq_getElem (show i < zs.length by omega)]
theorem wf_byte {x : Int} (h : (Lit.int .u8 x).wf = true) : 0 ≤ x ∧ x ≤ 255 := bounds_u8 h
theorem bytes_take {zs : List Int} (n : Nat) (h : ∀ x ∈ zs, (Lit.int .u8 x).wf = true) : Bytes (zs.take n) := fun x hx => wf_byte (h x (List.mem_of_mem_take hx))
end Go.Proofs.Qxb6604695a
