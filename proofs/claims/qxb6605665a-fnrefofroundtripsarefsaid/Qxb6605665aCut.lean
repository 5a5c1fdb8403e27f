import Derived.Test.Qxb6605665aProg
import Derived.WalkKit
import Derived.Lib.Strings
import Derived.Lib.Bytealg
import Derived.Deep.Draws
import Derived.RegionTactic
import Derived.Below
import Derived.Test.Qxb6605665aPlain
namespace Go.Proofs.Qxb6605665a
open Go.RowKit
set_option maxHeartbeats 400000 in
theorem indexByte_any (s : ByteArray) (c : Int) (w : World) :
    Calls Try.prog 40 #[.string s, .int .u8 c] w fun e w' => e = .returned (.int .i64 (Lib.indexByte s.data.toList c.toNat.toUInt8)) ∧ w' = w := by
  go_enter Try.func40, Try.ntmps40
  go_wp2
  rw [run_callFunc_extern Try.func44 (by kernel_rfl) (by kernel_rfl) (by kernel_rfl) (e := Extern.BytealgIndexByte.indexByte) (by kernel_rfl), Lib.run_indexByteString]
  simp only [Result.andThen]
  rw [Oper.upon_value]
  go_wp2
  go_ret
  exact ⟨rfl, rfl⟩
set_option maxHeartbeats 400000 in
theorem index_one (s : ByteArray) (c : UInt8) (w : World) :
    Calls Try.prog 39 #[.string s, .string ⟨#[c]⟩] w fun e w' => e = .returned (.int .i64 (Lib.indexByte s.data.toList c)) ∧ w' = w := by
  go_enter Try.func39, Try.ntmps39
  go_wp2_with (go_at_call 40; refine (indexByte_any _ _ _).mono ?_; rintro e w' ⟨rfl, rfl⟩)
  · have h : ([c] == s.toList) = true := by assumption
    go_ret
    refine ⟨?_, rfl⟩
    have e : s.data.toList = [c] := by rw [← Lib.toList_data]; exact (beq_iff_eq.1 h).symm
    rw [e]
    simp [Lib.indexByte]
  · go_ret
    exact ⟨rfl, rfl⟩
set_option maxHeartbeats 400000 in
theorem slCut_miss (s : ByteArray) (c : UInt8) (w : World) (h : Lib.indexByte s.data.toList c = -1) :
    Calls Try.prog 38 #[.string s, .string ⟨#[c]⟩] w fun e w' => e = .returned (.tuple #[.string s, .string ⟨#[]⟩, .bool false]) ∧ w' = w := by
  have H : Hid _ := h
  clear h
  go_enter Try.func38, Try.ntmps38
  go_wp2_with (go_at_call 39; refine (index_one _ _ _).mono ?_; rintro e w' ⟨rfl, rfl⟩; rw [H.out])
  go_ret3
  exact ⟨rfl, rfl⟩
set_option maxHeartbeats 400000 in
theorem slCut_hit (s : ByteArray) (c : UInt8) (i : Nat) (w : World) (hs : s.size ≤ 4194304) (h : Lib.indexByte s.data.toList c = (i : Nat)) (hi : i < s.size) :
    Calls Try.prog 38 #[.string s, .string ⟨#[c]⟩] w fun e w' => e = .returned (.tuple #[.string (s.extract 0 i), .string (s.extract (i + 1) s.size), .bool true]) ∧ ∃ n, w' = w.drewN n := by
  have H : Hid _ := h
  clear h
  have c1 : (0 : Int) ≤ ↑i := by omega
  have c2 : (↑i : Int) ≤ ↑s.size := by omega
  have c3 : (0 : Int) ≤ ↑i + 1 := by omega
  have c4 : (↑i + 1 : Int) ≤ ↑s.size := by omega
  go_enter Try.func38, Try.ntmps38
  go_wp2_with (go_at_call 39; refine (index_one _ _ _).mono ?_; rintro e w' ⟨rfl, rfl⟩; rw [H.out])
  go_region
  go_wp2
  go_ret3
  exact ⟨rfl, 1, rfl⟩
theorem idx_lt {s : ByteArray} {c : UInt8} {i : Nat} (h : Lib.indexByte s.data.toList c = (i : Nat)) : i < s.size := by
  rcases Plain.parted c s.data.toList with ⟨_, h2⟩ | ⟨a, b, e, _, h2⟩
  · omega
  · have h3 : s.data.toList.length = a.length + (b.length + 1) := by rw [e]; simp
    rw [Lib.size_eq, h3]
    omega
set_option maxHeartbeats 400000 in
theorem cut_miss (s : ByteArray) (c : UInt8) (w : World) (h : Lib.indexByte s.data.toList c = -1) :
    Calls Try.prog 37 #[.string s, .string ⟨#[c]⟩] w fun e w' => e = .returned (.tuple #[.string s, .string ⟨#[]⟩, .bool false]) ∧ w' = w := by
  have H : Hid _ := h
  clear h
  go_enter Try.func37, Try.ntmps37
  go_wp2_with (go_at_call 38; refine (slCut_miss _ _ _ H.out).mono ?_; rintro e w' ⟨rfl, rfl⟩)
  go_ret3
  exact ⟨rfl, rfl⟩
set_option maxHeartbeats 400000 in
theorem cut_hit (s : ByteArray) (c : UInt8) (i : Nat) (w : World) (hs : s.size ≤ 4194304) (h : Lib.indexByte s.data.toList c = (i : Nat)) (hi : i < s.size) :
    Calls Try.prog 37 #[.string s, .string ⟨#[c]⟩] w fun e w' => e = .returned (.tuple #[.string (s.extract 0 i), .string (s.extract (i + 1) s.size), .bool true]) ∧ ∃ n, w' = w.drewN n := by
  have H : Hid _ := h
  clear h
  go_enter Try.func37, Try.ntmps37
  go_wp2_with (go_at_call 38; refine (slCut_hit _ _ _ _ hs H.out hi).mono ?_; rintro e w' ⟨rfl, n, rfl⟩)
  go_ret3
  exact ⟨rfl, n, rfl⟩
end Go.Proofs.Qxb6605665a
