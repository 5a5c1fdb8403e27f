import Derived.Test.Qxb6604201aGrants
import Derived.Deep.QuietTactic
import Derived.BigQuiet
namespace Go.Proofs.Qxb6604201a
open Go.RowKit

def mgrantsB (ss : List ByteArray) (r : ByteArray) : Bool := Plain.mgrants (ss.map (·.data.toList)) r.data.toList
def mB (r s : ByteArray) : Bool := Plain.grant2 r.data.toList s.data.toList
theorem mgrantsB_not {ss : List ByteArray} {r : ByteArray} (h : mreqB r = false) : false = mgrantsB ss r := by
  unfold mgrantsB Plain.mgrants
  rw [show Plain.mreq r.data.toList = false from h]; rfl
theorem mgrantsB_hit {ss : List ByteArray} {r : ByteArray} {k : Nat} (h : mreqB r = true) (hk : k < ss.length) (hg : mB r (ss.getD k ByteArray.empty) = true) : true = mgrantsB ss r := by
  unfold mgrantsB Plain.mgrants
  rw [show Plain.mreq r.data.toList = true from h, Bool.true_and, List.any_map]
  symm
  rw [List.any_eq_true]
  refine ⟨ss[k], List.getElem_mem hk, ?_⟩
  rw [List.getD_eq_getElem?_getD, List.getElem?_eq_getElem hk] at hg
  exact hg
theorem mgrantsB_miss {ss : List ByteArray} {r : ByteArray} {k : Nat} (hk : ss.length ≤ k) (hg : ∀ j, j < k → mB r (ss.getD j ByteArray.empty) = false) : false = mgrantsB ss r := by
  unfold mgrantsB Plain.mgrants
  symm
  rw [List.any_map, List.any_eq_false.2, Bool.and_false]
  intro s hm
  obtain ⟨j, hj⟩ := List.mem_iff_getElem?.1 hm
  have hl : j < ss.length := (List.getElem?_eq_some_iff.1 hj).1
  have := hg j (by omega)
  rw [List.getD_eq_getElem?_getD, hj] at this
  have q : mB r s = false := this
  show ¬ (mB r s = true)
  rw [q]
  simp
theorem law (ss : List ByteArray) (r : ByteArray) : grantsB ss r = mgrantsB ss r := Plain.law_three _ _

/-! ### The model's third test -/
def underB (r s : ByteArray) : Bool := Plain.under r.data.toList s.data.toList
theorem mB_is (r s : ByteArray) : mB r s = (((s.toList == [42]) || (s.toList == r.toList)) || underB r s) := by
  rw [Lib.toList_data, Lib.toList_data]; rfl
theorem is58 (c : UInt8) : (some c == some 58) = ((c.toNat : Int) == 58) := by
  rw [Bool.eq_iff_iff]
  simp only [beq_iff_eq, Option.some.injEq]
  rw [← UInt8.toNat_inj]
  have : (58 : UInt8).toNat = 58 := rfl
  omega
theorem is42 (c : UInt8) : (some c == some 42) = ((c.toNat : Int) == 42) := by
  rw [Bool.eq_iff_iff]
  simp only [beq_iff_eq, Option.some.injEq]
  rw [← UInt8.toNat_inj]
  have : (42 : UInt8).toNat = 42 := rfl
  omega
theorem get_at (s : ByteArray) (k : Nat) (h : k < s.size) : s.data.toList[k]? = some s[k] := by
  rw [List.getElem?_eq_getElem (by rw [← Lib.size_eq]; exact h)]; rfl
theorem under_short {r s : ByteArray} (h : s.size < 2) : underB r s = false := by
  have e : ¬ 2 ≤ s.data.toList.length := by rw [← Lib.size_eq]; omega
  unfold underB Plain.under Plain.starEnd
  rw [decide_eq_false e]
  rfl
theorem under_is {r s : ByteArray} (h : 2 ≤ s.size) : underB r s = ((((s[s.size - 2].toNat : Int) == 58) && ((s[s.size - 1].toNat : Int) == 42)) && (decide ((s.size : Int) - 1 ≤ r.size) && ((r.extract 0 (s.size - 1)).toList == (s.extract 0 (s.size - 1)).toList))) := by
  have l : s.data.toList.length = s.size := (Lib.size_eq s).symm
  have lr : r.data.toList.length = r.size := (Lib.size_eq r).symm
  unfold underB Plain.under Plain.starEnd
  rw [l, lr, get_at s (s.size - 2) (by omega), get_at s (s.size - 1) (by omega), decide_eq_true h, Bool.true_and, is58, is42, Lib.toList_data, Lib.toList_data, before_data, before_data]
  congr 2
  rw [decide_eq_decide]
  omega

set_option maxHeartbeats 400000 in
theorem mgrants_no (ao : Option Addr) (n cap : Nat) (r : ByteArray) (w : World) (hr : r.size ≤ 1048576) (hv : mreqB r = false) :
    Calls Try.prog 15 #[.slice ao n cap, .string r] w fun e w' => e = .returned (.bool false) ∧ ∃ n, w' = w.drewN n := by
  go_enter Try.func15, Try.ntmps15
  go_wp2_with (first | (go_at_call 20; refine (modelRequired_any _ _ hr).mono ?_; rintro e w1 ⟨rfl, hw⟩; subst w1))
  go_ret
  exact ⟨rfl, 0, rfl⟩

/-- The loop's relation behind one round more. -/
theorem mno_step {ss : List ByteArray} {r : ByteArray} {k : Nat} (h : ∀ j, j < k → mB r (ss.getD j ByteArray.empty) = false) (hk : mB r (ss.getD k ByteArray.empty) = false) : ∀ j, j < k + 1 → mB r (ss.getD j ByteArray.empty) = false := by
  intro j hj
  by_cases e : j = k
  · rw [e]; exact hk
  · exact h j (by omega)

set_option maxHeartbeats 2000000 in
theorem mgrants_yes (ao : Option Addr) (n cap : Nat) (ss : List ByteArray) (r : ByteArray) (w : World) (hn : n ≤ 65536) (hr : r.size ≤ 1048576) (hs : Strs w ao n ss) (hz : Sized ss) (hv : mreqB r = true) :
    Calls Try.prog 15 #[.slice ao n cap, .string r] w fun e w' => e = .returned (.bool (mgrantsB ss r)) ∧ ∃ n, w' = w.drewN n := by
  have HV : Hid _ := hv
  have HL : Hid _ := hs.1
  go_enter Try.func15, Try.ntmps15
  go_wp2_with (first | (go_at_call 20; refine (modelRequired_any _ _ hr).mono ?_; rintro e w1 ⟨rfl, hw⟩; subst w1))
  go_loopw [5, 6, 7] (fun j h m wr => ∃ k q : Nat, k ≤ n ∧ j = .int .i64 k ∧ wr = w.drewN q ∧ Hid (∀ j, j < k → mB r (ss.getD j ByteArray.empty) = false)) (fun i _ _ _ => n - (intOf i).toNat)
  case atStart => exact ⟨0, 0, Nat.zero_le _, rfl, rfl, fun j h => absurd h (Nat.not_lt_zero _)⟩
  case round =>
    clear hv
    obtain ⟨k, q, hk, rfl, rfl, hno⟩ := hrel
    by_cases hlt : k < n
    · obtain ⟨B, o, rfl, hc⟩ := hs.2 k hlt
      have hsz := hz k
      obtain ⟨s, es⟩ : ∃ s, s = ss.getD k ByteArray.empty := ⟨_, rfl⟩
      have ES : Hid _ := es
      rw [← es] at hc hsz
      have g := mB_is r s
      rw [es, ← es] at g
      clear es
      have GM : Hid _ := g
      clear g
      rcases bool_two (s.toList == [42]) with t3 | t3
      · have E : Hid (true = mgrantsB ss r) := mgrantsB_hit (k := k) HV.out (by have := HL.out; omega) (by rw [← ES.out, GM.out, t3]; rfl)
        go_wp2
        go_ret
        exact ⟨ret_bool E.out, _, rfl⟩
      · rcases bool_two (s.toList == r.toList) with t1 | t1
        · have E : Hid (true = mgrantsB ss r) := mgrantsB_hit (k := k) HV.out (by have := HL.out; omega) (by rw [← ES.out, GM.out, t3, t1]; rfl)
          go_wp2
          go_ret
          exact ⟨ret_bool E.out, _, rfl⟩
        · by_cases hm : s.size < 2
          · have d1 : decide ((2 : Int) ≤ s.size) = false := decide_eq_false (by omega)
            have E : Hid (mB r (ss.getD k ByteArray.empty) = false) := by show _ = _; rw [← ES.out, GM.out, t3, t1, under_short hm]; rfl
            go_wp2
            go_quiet (fail)
            go_wp2
            go_roundw
            case rel => exact ⟨k + 1, _, by omega, by go_num, rfl, mno_step hno.out E.out⟩
            case measure => simp [intOf]; omega
          · have hm' : 2 ≤ s.size := by omega
            clear hm
            have U : Hid (underB r s = _) := under_is hm'
            have d1 : decide ((2 : Int) ≤ s.size) = true := decide_eq_true (by omega)
            have w2 : IntKind.i64.wrap ((s.size : Int) - 2) = (s.size : Int) - 2 := by rw [IntKind.wrap_i64]; omega
            have w1 : IntKind.i64.wrap ((s.size : Int) - 1) = (s.size : Int) - 1 := by rw [IntKind.wrap_i64]; omega
            have n2 : ((s.size : Int) - 2).toNat = s.size - 2 := by omega
            have n1 : ((s.size : Int) - 1).toNat = s.size - 1 := by omega
            have l2 : (s.size : Int) - 2 < s.size := by omega
            have l1 : (s.size : Int) - 1 < s.size := by omega
            have k1 : (s.size : Int) - 1 ≤ s.size := by omega
            have q2 : (2 : Int) ≤ s.size := by omega
            have q1 : (1 : Int) ≤ s.size := by omega
            rcases bool_two ((s[s.size - 2].toNat : Int) == 58) with b58 | b58
            · rcases bool_two ((s[s.size - 1].toNat : Int) == 42) with b42 | b42
              · by_cases hle : (s.size : Int) - 1 ≤ r.size
                · have d2 : decide ((s.size : Int) - 1 ≤ r.size) = true := decide_eq_true hle
                  rcases bool_two ((r.extract 0 (s.size - 1)).toList == (s.extract 0 (s.size - 1)).toList) with t4 | t4
                  · have E : Hid (true = mgrantsB ss r) := mgrantsB_hit (k := k) HV.out (by have := HL.out; omega) (by rw [← ES.out, GM.out, t3, t1, U.out, b58, b42, d2, t4]; rfl)
                    go_wp2
                    go_quiet (fail)
                    go_wp2
                    go_ret
                    exact ⟨ret_bool E.out, _, by rw [World.drewN_drewN]⟩
                  · have E : Hid (mB r (ss.getD k ByteArray.empty) = false) := by show _ = _; rw [← ES.out, GM.out, t3, t1, U.out, b58, b42, d2, t4]; rfl
                    go_wp2
                    go_quiet (fail)
                    go_wp2
                    go_roundw
                    case rel => exact ⟨k + 1, _, by omega, by go_num, rfl, mno_step hno.out E.out⟩
                    case measure => simp [intOf]; omega
                · have d2 : decide ((s.size : Int) - 1 ≤ r.size) = false := decide_eq_false hle
                  clear hle
                  have E : Hid (mB r (ss.getD k ByteArray.empty) = false) := by show _ = _; rw [← ES.out, GM.out, t3, t1, U.out, b58, b42, d2]; rfl
                  go_wp2
                  go_quiet (fail)
                  go_wp2
                  go_roundw
                  case rel => exact ⟨k + 1, _, by omega, by go_num, rfl, mno_step hno.out E.out⟩
                  case measure => simp [intOf]; omega
              · have E : Hid (mB r (ss.getD k ByteArray.empty) = false) := by show _ = _; rw [← ES.out, GM.out, t3, t1, U.out, b58, b42]; rfl
                go_wp2
                go_quiet (fail)
                go_wp2
                go_roundw
                case rel => exact ⟨k + 1, _, by omega, by go_num, rfl, mno_step hno.out E.out⟩
                case measure => simp [intOf]; omega
            · have E : Hid (mB r (ss.getD k ByteArray.empty) = false) := by show _ = _; rw [← ES.out, GM.out, t3, t1, U.out, b58]; rfl
              go_wp2
              go_quiet (fail)
              go_wp2
              go_roundw
              case rel => exact ⟨k + 1, _, by omega, by go_num, rfl, mno_step hno.out E.out⟩
              case measure => simp [intOf]; omega
    · have E : Hid (false = mgrantsB ss r) := mgrantsB_miss (by have := HL.out; omega) hno.out
      go_wp2
      go_ret
      exact ⟨ret_bool E.out, _, rfl⟩
theorem mgrants_any (ao : Option Addr) (n cap : Nat) (ss : List ByteArray) (r : ByteArray) (w : World) (hn : n ≤ 65536) (hr : r.size ≤ 1048576) (hs : Strs w ao n ss) (hz : Sized ss) :
    Calls Try.prog 15 #[.slice ao n cap, .string r] w fun e w' => e = .returned (.bool (mgrantsB ss r)) ∧ ∃ n, w' = w.drewN n := by
  rcases bool_two (mreqB r) with hv | hv
  · exact mgrants_yes ao n cap ss r w hn hr hs hz hv
  · rw [← mgrantsB_not (ss := ss) hv]
    exact mgrants_no ao n cap r w hr hv
end Go.Proofs.Qxb6604201a
