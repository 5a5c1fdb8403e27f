import Derived.Test.Qxb6604201aProg
import Derived.WalkKit
import Derived.Lib.Strings
import Derived.Test.Qxb6604201aPlain
namespace Go.Proofs.Qxb6604201a
open Go.RowKit
/-- A name, of a string. -/
def vnameB (s : ByteArray) : Bool := Plain.vname s.data.toList

theorem take_snoc (s : ByteArray) (k : Nat) (h : k < s.size) : s.data.toList.take (k + 1) = s.data.toList.take k ++ [s[k]] := by
  rw [List.take_succ_eq_append_getElem (by simpa using h)]; rfl
theorem ret_bool {a b : Bool} (h : a = b) : Ending.returned (.bool a) = .returned (.bool b) := by rw [h]
theorem toList_len (s : ByteArray) : s.data.toList.length = s.size := by simp
theorem vnameB_empty {s : ByteArray} (h : s.toList.isEmpty = true) : false = vnameB s := by
  have e : s.data.toList = [] := by rw [← Lib.toList_data]; simpa using h
  unfold vnameB
  rw [e]; rfl
theorem vnameB_long {s : ByteArray} (h : (64 : Int) < s.size) : false = vnameB s := by
  have e : ¬ s.data.toList.length ≤ 64 := by rw [toList_len]; omega
  simp [vnameB, Plain.vname, -Array.length_toList, e]
theorem vnameB_bad {s : ByteArray} {k : Nat} (hk : k < s.size) (h : Plain.okc s[k] = false) : false = vnameB s := by
  have e : s.data.toList.all Plain.okc = false := by
    rw [List.all_eq_false]
    exact ⟨s[k], by rw [Array.mem_toList_iff]; exact Array.getElem_mem hk, by simp [h]⟩
  simp [vnameB, Plain.vname, e]
theorem vnameB_good {s : ByteArray} {k : Nat} (he : s.toList.isEmpty = false) (hl : (s.size : Int) ≤ 64) (hk : s.size ≤ k) (h : (s.data.toList.take k).all Plain.okc = true) : true = vnameB s := by
  rw [List.take_of_length_le (by rw [toList_len]; exact hk)] at h
  have e : ¬ s.data.toList = [] := by rw [← Lib.toList_data]; simpa using he
  have e2 : 1 ≤ s.data.toList.length := List.length_pos_iff.2 e
  have e3 : s.data.toList.length ≤ 64 := by rw [toList_len]; omega
  simp [vnameB, Plain.vname, -Array.length_toList, e2, e3, h]
theorem all_step {s : ByteArray} {k : Nat} (hk : k < s.size) (h : (s.data.toList.take k).all Plain.okc = true) (hc : Plain.okc s[k] = true) : (s.data.toList.take (k + 1)).all Plain.okc = true := by
  rw [take_snoc s k hk, List.all_append, h]
  simp [hc]
theorem okc_yes {c : UInt8} (h : (97 ≤ (c.toNat : Int) ∧ (c.toNat : Int) ≤ 122) ∨ (48 ≤ (c.toNat : Int) ∧ (c.toNat : Int) ≤ 57) ∨ (95 ≤ (c.toNat : Int) ∧ (c.toNat : Int) ≤ 95) ∨ (45 ≤ (c.toNat : Int) ∧ (c.toNat : Int) ≤ 46)) : Plain.okc c = true := by
  simp only [Plain.okc, Bool.or_eq_true, Bool.and_eq_true, decide_eq_true_eq]
  omega
theorem okc_no {c : UInt8} (h : (c.toNat : Int) ≤ 44 ∨ (47 ≤ (c.toNat : Int) ∧ (c.toNat : Int) ≤ 47) ∨ (58 ≤ (c.toNat : Int) ∧ (c.toNat : Int) ≤ 94) ∨ (96 ≤ (c.toNat : Int) ∧ (c.toNat : Int) ≤ 96) ∨ 123 ≤ (c.toNat : Int)) : Plain.okc c = false := by
  simp only [Plain.okc, Bool.or_eq_false_iff, Bool.and_eq_false_iff, decide_eq_false_iff_not]
  omega
theorem okc_parts (c : Int) : ((97 ≤ c ∧ c ≤ 122) ∨ (48 ≤ c ∧ c ≤ 57) ∨ (95 ≤ c ∧ c ≤ 95) ∨ (45 ≤ c ∧ c ≤ 45) ∨ (46 ≤ c ∧ c ≤ 46)) ∨ (c ≤ 44 ∨ (47 ≤ c ∧ c ≤ 47) ∨ (58 ≤ c ∧ c ≤ 94) ∨ (96 ≤ c ∧ c ≤ 96) ∨ 123 ≤ c) := by omega

set_option maxHeartbeats 1000000 in
theorem validName_any (s : ByteArray) (w : World) (hs : s.size ≤ maxLen) :
    Calls Try.prog 17 #[.string s] w fun e w' => e = .returned (.bool (vnameB s)) ∧ w' = w := by
  unfold maxLen at hs
  by_cases he : s.toList.isEmpty = true
  · go_enter Try.func17, Try.ntmps17
    go_wp2
    go_ret
    exact ⟨ret_bool (vnameB_empty he), rfl⟩
  · have he' : s.toList.isEmpty = false := by simpa using he
    clear he
    by_cases hl : (64 : Int) < s.size
    · go_enter Try.func17, Try.ntmps17
      go_wp2
      go_ret
      exact ⟨ret_bool (vnameB_long hl), rfl⟩
    · have hl' : (s.size : Int) ≤ 64 := by omega
      clear hl
      go_enter Try.func17, Try.ntmps17
      go_wp2
      go_loop [3, 4] (fun i c => ∃ k : Nat, k ≤ s.size ∧ i = .int .i64 k ∧ Hid ((s.data.toList.take k).all Plain.okc = true)) (fun i _ => s.size - (intOf i).toNat)
      case atStart => exact ⟨0, Nat.zero_le _, rfl, rfl⟩
      case round =>
        obtain ⟨k, hk, rfl, hall⟩ := hrel
        by_cases hlt : k < s.size
        · rcases okc_parts ((s[k].toNat : Nat) : Int) with hc | hc
          · have HY : Hid (Plain.okc s[k] = true) := okc_yes (by omega)
            rcases hc with ⟨h1, h2⟩ | ⟨h1, h2⟩ | ⟨h1, h2⟩ | ⟨h1, h2⟩ | ⟨h1, h2⟩
            · go_wp2
              go_round
              case rel => exact ⟨k + 1, by omega, by go_num, all_step hlt hall.out HY.out⟩
              case measure => simp [intOf]; omega
            · go_wp2
              go_round
              case rel => exact ⟨k + 1, by omega, by go_num, all_step hlt hall.out HY.out⟩
              case measure => simp [intOf]; omega
            · have b1 : (((s[k].toNat : Nat) : Int) == 95) = true := beq_iff_eq.2 (by omega)
              go_wp2
              go_round
              case rel => exact ⟨k + 1, by omega, by go_num, all_step hlt hall.out HY.out⟩
              case measure => simp [intOf]; omega
            · have b2 : (((s[k].toNat : Nat) : Int) == 45) = true := beq_iff_eq.2 (by omega)
              go_wp2
              go_round
              case rel => exact ⟨k + 1, by omega, by go_num, all_step hlt hall.out HY.out⟩
              case measure => simp [intOf]; omega
            · have b3 : (((s[k].toNat : Nat) : Int) == 46) = true := beq_iff_eq.2 (by omega)
              go_wp2
              go_round
              case rel => exact ⟨k + 1, by omega, by go_num, all_step hlt hall.out HY.out⟩
              case measure => simp [intOf]; omega
          · have HN : Hid (Plain.okc s[k] = false) := okc_no (by omega)
            have b1 : (((s[k].toNat : Nat) : Int) == 95) = false := beq_eq_false_iff_ne.2 (by omega)
            have b2 : (((s[k].toNat : Nat) : Int) == 45) = false := beq_eq_false_iff_ne.2 (by omega)
            have b3 : (((s[k].toNat : Nat) : Int) == 46) = false := beq_eq_false_iff_ne.2 (by omega)
            rcases hc with h1 | ⟨h1, h2⟩ | ⟨h1, h2⟩ | ⟨h1, h2⟩ | h1
            · go_wp2
              go_ret
              exact ⟨ret_bool (vnameB_bad hlt HN.out), rfl⟩
            · go_wp2
              go_ret
              exact ⟨ret_bool (vnameB_bad hlt HN.out), rfl⟩
            · have d1 : decide (((s[k].toNat : Nat) : Int) ≤ 57) = false := decide_eq_false (by omega)
              go_wp2
              go_ret
              exact ⟨ret_bool (vnameB_bad hlt HN.out), rfl⟩
            · have d1 : decide (((s[k].toNat : Nat) : Int) ≤ 57) = false := decide_eq_false (by omega)
              go_wp2
              go_ret
              exact ⟨ret_bool (vnameB_bad hlt HN.out), rfl⟩
            · have d1 : decide (((s[k].toNat : Nat) : Int) ≤ 57) = false := decide_eq_false (by omega)
              have d2 : decide (((s[k].toNat : Nat) : Int) ≤ 122) = false := decide_eq_false (by omega)
              go_wp2
              go_ret
              exact ⟨ret_bool (vnameB_bad hlt HN.out), rfl⟩
        · go_wp2
          go_ret
          exact ⟨ret_bool (vnameB_good he' hl' (by omega) hall.out), rfl⟩
end Go.Proofs.Qxb6604201a
