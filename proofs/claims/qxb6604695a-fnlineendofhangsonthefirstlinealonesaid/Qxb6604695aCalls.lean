import Derived.Test.Qxb6604695aProg
import Derived.WalkKit
import Derived.Below
import Derived.OwnWalk
import Derived.Laws.OwnMore
import Derived.WalkLawsBesides
import Derived.Test.Qxb6604695aPlain
namespace Go.Proofs.Qxb6604695a
open Go.RowKit

/-- The cells of block B, from its head on, hold the numbers zs. -/
def Row (w : World) (B : Nat) (zs : List Int) : Prop := ∀ i, i < zs.length → w.cell? ⟨B, i, none⟩ = some (.int .u8 (zs.getD i 0))

theorem ret_int {k : IntKind} {a b : Int} (h : a = b) : Ending.returned (.int k a) = .returned (.int k b) := by rw [h]

/-! ### bytes.IndexByte at LF -/
set_option maxHeartbeats 400000 in
theorem indexByte_row (B n cap : Nat) (zs : List Int) (w : World) (hz : zs.length = n) (hr : Row w B zs) (r : Int) (hi : Lib.indexByte (Lib.bytesOf zs) 10 = r) :
    Calls Try.prog 13 #[.slice (some ⟨B, 0, none⟩) n cap, .int .u8 10] w fun e w' => e = .returned (.int .i64 r) ∧ w' = w := by
  have H : Hid _ := hi
  have HR : Hid _ := hr
  have HZ : Hid _ := hz
  clear hi hr hz
  go_enter Try.func13, Try.ntmps13
  go_wp2
  rw [run_callFunc_extern Try.func14 (by kernel_rfl) (by kernel_rfl) (by kernel_rfl) (e := Extern.BytealgIndexByte.indexByte) (by kernel_rfl), Lib.run_indexByteSlice w B 0 n cap zs HZ.out (fun i hi => by rw [Nat.zero_add]; exact HR.out i (by rw [HZ.out]; exact hi)), show Lib.indexByte (Lib.bytesOf zs) (10 : Int).toNat.toUInt8 = r from H.out]
  simp only [Result.andThen]
  rw [Oper.upon_value]
  go_wp2
  go_ret
  exact ⟨rfl, rfl⟩
set_option maxHeartbeats 400000 in
theorem indexByte_nil (w : World) :
    Calls Try.prog 13 #[.slice none 0 0, .int .u8 10] w fun e w' => e = .returned (.int .i64 (-1)) ∧ w' = w := by
  go_enter Try.func13, Try.ntmps13
  go_wp2
  rw [run_callFunc_extern Try.func14 (by kernel_rfl) (by kernel_rfl) (by kernel_rfl) (e := Extern.BytealgIndexByte.indexByte) (by kernel_rfl), Lib.run_indexByteNil]
  simp only [Result.andThen]
  rw [Oper.upon_value]
  go_wp2
  go_ret
  exact ⟨rfl, rfl⟩

/-! ### lineEndOf -/
set_option maxHeartbeats 400000 in
theorem lineEnd_nil (w : World) :
    Calls Try.prog 12 #[.slice none 0 0] w fun e w' => e = .returned (.string ⟨#[13, 10]⟩) ∧ w' = w := by
  go_enter Try.func12, Try.ntmps12
  go_wp2_with (go_at_call 13; refine (indexByte_nil _).mono ?_; rintro e w' ⟨rfl, rfl⟩)
  go_ret
  exact ⟨rfl, rfl⟩
set_option maxHeartbeats 400000 in
theorem lineEnd_none (B n cap : Nat) (zs : List Int) (w : World) (hz : zs.length = n) (hr : Row w B zs) (hb : Bytes zs) (h : NoLF zs) :
    Calls Try.prog 12 #[.slice (some ⟨B, 0, none⟩) n cap] w fun e w' => e = .returned (.string ⟨#[13, 10]⟩) ∧ w' = w := by
  have C := fun w hr => indexByte_row B n cap zs w hz hr (-1) (index_none hb h)
  clear hz h
  go_enter Try.func12, Try.ntmps12
  go_wp2_with (go_at_call 13; refine (C _ hr).mono ?_; rintro e w' ⟨rfl, rfl⟩)
  go_ret
  exact ⟨rfl, rfl⟩
set_option maxHeartbeats 400000 in
theorem lineEnd_lf (B n cap p : Nat) (zs : List Int) (w : World) (hn : n ≤ 4194304) (hz : zs.length = n) (hr : Row w B zs) (hb : Bytes zs) (h : LFAt zs p) (hc : p = 0 ∨ zs.getD (p - 1) 0 ≠ 13) :
    Calls Try.prog 12 #[.slice (some ⟨B, 0, none⟩) n cap] w fun e w' => e = .returned (.string ⟨#[10]⟩) ∧ w' = w := by
  have hp : p < n := by have := h.1; omega
  have C := fun w hr => indexByte_row B n cap zs w hz hr p (index_at hb h)
  by_cases h0 : p = 0
  · subst h0
    clear hz h hc
    go_enter Try.func12, Try.ntmps12
    go_wp2_with (go_at_call 13; refine (C _ hr).mono ?_; rintro e w' ⟨rfl, rfl⟩)
    go_ret
    exact ⟨rfl, rfl⟩
  · have h1 : 1 ≤ p := by omega
    have hcell := hr (p - 1) (by omega)
    obtain ⟨c, ec⟩ : ∃ c, c = zs.getD (p - 1) 0 := ⟨_, rfl⟩
    rw [← ec] at hcell
    have hne : (c == 13) = false := beq_eq_false_iff_ne.2 (by rw [ec]; rcases hc with q | q; exact absurd q h0; exact q)
    have b0 : ((p : Int) == 0) = false := beq_eq_false_iff_ne.2 (by omega)
    clear hz h hc ec h0
    go_enter Try.func12, Try.ntmps12
    go_wp2_with (go_at_call 13; refine (C _ hr).mono ?_; rintro e w' ⟨rfl, rfl⟩)
    go_ret
    exact ⟨rfl, rfl⟩
set_option maxHeartbeats 400000 in
theorem lineEnd_crlf (B n cap p : Nat) (zs : List Int) (w : World) (hn : n ≤ 4194304) (hz : zs.length = n) (hr : Row w B zs) (hb : Bytes zs) (h : LFAt zs p) (h1 : 1 ≤ p) (hc : zs.getD (p - 1) 0 = 13) :
    Calls Try.prog 12 #[.slice (some ⟨B, 0, none⟩) n cap] w fun e w' => e = .returned (.string ⟨#[13, 10]⟩) ∧ w' = w := by
  have hp : p < n := by have := h.1; omega
  have C := fun w hr => indexByte_row B n cap zs w hz hr p (index_at hb h)
  have hcell := hr (p - 1) (by omega)
  rw [hc] at hcell
  have b0 : ((p : Int) == 0) = false := beq_eq_false_iff_ne.2 (by omega)
  clear hz h hc
  go_enter Try.func12, Try.ntmps12
  go_wp2_with (go_at_call 13; refine (C _ hr).mono ?_; rintro e w' ⟨rfl, rfl⟩)
  go_ret
  exact ⟨rfl, rfl⟩

end Go.Proofs.Qxb6604695a
