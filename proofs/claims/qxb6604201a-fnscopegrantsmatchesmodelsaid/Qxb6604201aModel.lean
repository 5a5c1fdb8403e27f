import Derived.Test.Qxb6604201aValid
namespace Go.Proofs.Qxb6604201a
open Go.RowKit

/-! ### scopeB1InAlphabet -/
def alphL : List UInt8 := [97, 98, 99, 100, 101, 102, 103, 104, 105, 106, 107, 108, 109, 110, 111, 112, 113, 114, 115, 116, 117, 118, 119, 120, 121, 122, 48, 49, 50, 51, 52, 53, 54, 55, 56, 57, 95, 45, 46]
theorem okc_nat : ∀ n, n < 256 → Plain.okc (UInt8.ofNat n) = alphL.contains (UInt8.ofNat n) := by decide +kernel
theorem okc_alph (c : UInt8) : Plain.okc c = alphL.contains c := by
  have h := okc_nat c.toNat c.toNat_lt
  rwa [UInt8.ofNat_toNat] at h
theorem alph_hit {c : UInt8} {k : Nat} (h : alphL[k]? = some c) : true = Plain.okc c := by
  rw [okc_alph, List.contains_iff_mem.2 (List.mem_of_getElem? h)]
theorem alph_miss {c : UInt8} {k : Nat} (hk : 39 ≤ k) (h : ∀ j, j < k → alphL[j]? ≠ some c) : false = Plain.okc c := by
  rw [okc_alph]
  symm
  rw [← Bool.not_eq_true, List.contains_iff_mem]
  intro hm
  obtain ⟨j, hj⟩ := List.mem_iff_getElem?.1 hm
  have hl : j < alphL.length := (List.getElem?_eq_some_iff.1 hj).1
  exact h j (Nat.lt_of_lt_of_le hl (show alphL.length ≤ k from hk)) hj
theorem alph_at (k : Nat) (h : k < (⟨#[97, 98, 99, 100, 101, 102, 103, 104, 105, 106, 107, 108, 109, 110, 111, 112, 113, 114, 115, 116, 117, 118, 119, 120, 121, 122, 48, 49, 50, 51, 52, 53, 54, 55, 56, 57, 95, 45, 46]⟩ : ByteArray).size) (c : UInt8) :
    (((((⟨#[97, 98, 99, 100, 101, 102, 103, 104, 105, 106, 107, 108, 109, 110, 111, 112, 113, 114, 115, 116, 117, 118, 119, 120, 121, 122, 48, 49, 50, 51, 52, 53, 54, 55, 56, 57, 95, 45, 46]⟩ : ByteArray)[k]'h).toNat : Nat) : Int) == ((c.toNat : Nat) : Int)) = decide (alphL[k]? = some c) := by
  have e : alphL[k]? = some ((⟨#[97, 98, 99, 100, 101, 102, 103, 104, 105, 106, 107, 108, 109, 110, 111, 112, 113, 114, 115, 116, 117, 118, 119, 120, 121, 122, 48, 49, 50, 51, 52, 53, 54, 55, 56, 57, 95, 45, 46]⟩ : ByteArray)[k]'h) := by
    rw [List.getElem?_eq_getElem (show k < alphL.length from h)]
    rfl
  rw [e, Bool.eq_iff_iff]
  simp only [beq_iff_eq, decide_eq_true_eq, Option.some.injEq]
  rw [← UInt8.toNat_inj]
  omega

set_option maxHeartbeats 400000 in
theorem inAlphabet_any (c : UInt8) (w : World) :
    Calls Try.prog 22 #[.int .u8 ((c.toNat : Nat) : Int)] w fun e w' => e = .returned (.bool (Plain.okc c)) ∧ w' = w := by
  go_enter Try.func22, Try.ntmps22
  go_wp2
  go_loop [3] (fun i => ∃ k : Nat, k ≤ 39 ∧ i = .int .i64 k ∧ Hid (∀ j, j < k → alphL[j]? ≠ some c)) (fun i => 39 - (intOf i).toNat)
  case atStart => exact ⟨0, Nat.zero_le _, rfl, fun j h => absurd h (Nat.not_lt_zero _)⟩
  case round =>
    obtain ⟨k, hk, rfl, hno⟩ := hrel
    by_cases hlt : k < 39
    · have ha := alph_at k hlt c
      by_cases he : alphL[k]? = some c
      · have HE : Hid _ := he
        rw [decide_eq_true he] at ha
        clear he
        go_wp2
        go_ret
        exact ⟨ret_bool (alph_hit HE.out), rfl⟩
      · have HE : Hid _ := he
        rw [decide_eq_false he] at ha
        clear he
        go_wp2
        go_round
        case rel =>
          refine ⟨k + 1, by omega, by go_num, fun j hj => ?_⟩
          by_cases hjk : j = k
          · subst hjk; exact HE.out
          · exact hno.out j (by omega)
        case measure => simp [intOf]; omega
    · go_wp2
      go_ret
      exact ⟨ret_bool (alph_miss (by omega) hno.out), rfl⟩

/-! ### scopeB1ModelName -/
theorem vnameB_short {s : ByteArray} (h : s.size < 1) : false = vnameB s := by
  have e : ¬ 1 ≤ s.data.toList.length := by rw [toList_len]; omega
  simp [vnameB, Plain.vname, -Array.length_toList, e]
theorem vnameB_full {s : ByteArray} {k : Nat} (h1 : 1 ≤ s.size) (hl : (s.size : Int) ≤ 64) (hk : s.size ≤ k) (h : (s.data.toList.take k).all Plain.okc = true) : true = vnameB s := by
  refine vnameB_good ?_ hl hk h
  rw [Lib.toList_data]
  have : s.data.toList ≠ [] := fun e => by
    have := toList_len s
    rw [e] at this
    simp at this
    omega
  simpa using this
set_option maxHeartbeats 400000 in
theorem modelName_any (s : ByteArray) (w : World) (hs : s.size ≤ 1048576) :
    Calls Try.prog 19 #[.string s] w fun e w' => e = .returned (.bool (vnameB s)) ∧ w' = w := by
  by_cases h1 : s.size < 1
  · go_enter Try.func19, Try.ntmps19
    go_wp2
    go_ret
    exact ⟨ret_bool (vnameB_short h1), rfl⟩
  · have h1' : 1 ≤ s.size := by omega
    clear h1
    by_cases hl : (64 : Int) < s.size
    · go_enter Try.func19, Try.ntmps19
      go_wp2
      go_ret
      exact ⟨ret_bool (vnameB_long hl), rfl⟩
    · have hl' : (s.size : Int) ≤ 64 := by omega
      clear hl
      go_enter Try.func19, Try.ntmps19
      go_wp2
      go_loop [3] (fun i => ∃ k : Nat, k ≤ s.size ∧ i = .int .i64 k ∧ Hid ((s.data.toList.take k).all Plain.okc = true)) (fun i => s.size - (intOf i).toNat)
      case atStart => exact ⟨0, Nat.zero_le _, rfl, rfl⟩
      case round =>
        obtain ⟨k, hk, rfl, hall⟩ := hrel
        by_cases hlt : k < s.size
        · by_cases hc : Plain.okc s[k] = true
          · go_wp2_with (go_at_call 22; refine (inAlphabet_any _ _).mono ?_; rintro e w' ⟨rfl, rfl⟩)
            go_round
            case rel => exact ⟨k + 1, by omega, by go_num, all_step hlt hall.out hc⟩
            case measure => simp [intOf]; omega
          · have hc' : Plain.okc s[k] = false := by simpa using hc
            clear hc
            go_wp2_with (go_at_call 22; refine (inAlphabet_any _ _).mono ?_; rintro e w' ⟨rfl, rfl⟩)
            go_ret
            exact ⟨ret_bool (vnameB_bad hlt hc'), rfl⟩
        · go_wp2
          go_ret
          exact ⟨ret_bool (vnameB_full h1' hl' (by omega) hall.out), rfl⟩
end Go.Proofs.Qxb6604201a
