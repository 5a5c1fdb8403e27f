import Derived.Test.Qxb6604201aHeld
namespace Go.Proofs.Qxb6604201a
open Go.RowKit

def grantsB (ss : List ByteArray) (r : ByteArray) : Bool := Plain.grants (ss.map (·.data.toList)) r.data.toList
def gB (r s : ByteArray) : Bool := Plain.grant1 r.data.toList s.data.toList
theorem bool_two (b : Bool) : b = true ∨ b = false := by cases b <;> simp
theorem grantsB_not {ss : List ByteArray} {r : ByteArray} (h : vreqB r = false) : false = grantsB ss r := by
  unfold grantsB Plain.grants
  rw [show Plain.vreq r.data.toList = false from h]; rfl
theorem grantsB_hit {ss : List ByteArray} {r : ByteArray} {k : Nat} (h : vreqB r = true) (hk : k < ss.length) (hg : gB r (ss.getD k ByteArray.empty) = true) : true = grantsB ss r := by
  unfold grantsB Plain.grants
  rw [show Plain.vreq r.data.toList = true from h, Bool.true_and, List.any_map]
  symm
  rw [List.any_eq_true]
  refine ⟨ss[k], List.getElem_mem hk, ?_⟩
  rw [List.getD_eq_getElem?_getD, List.getElem?_eq_getElem hk] at hg
  exact hg
theorem grantsB_miss {ss : List ByteArray} {r : ByteArray} {k : Nat} (hk : ss.length ≤ k) (hg : ∀ j, j < k → gB r (ss.getD j ByteArray.empty) = false) : false = grantsB ss r := by
  unfold grantsB Plain.grants
  symm
  rw [List.any_map, List.any_eq_false.2, Bool.and_false]
  intro s hm
  obtain ⟨j, hj⟩ := List.mem_iff_getElem?.1 hm
  have hl : j < ss.length := (List.getElem?_eq_some_iff.1 hj).1
  have := hg j (by omega)
  rw [List.getD_eq_getElem?_getD, hj] at this
  have q : gB r s = false := this
  show ¬ (gB r s = true)
  rw [q]
  simp
theorem head_is {r : ByteArray} {i : Nat} (h : Lib.indexByte r.data.toList 58 = (i : Nat)) : (r.extract 0 i ++ ⟨#[58]⟩ ++ ⟨#[42]⟩ : ByteArray).toList = Plain.head r.data.toList ++ [58, 42] := by
  rw [Lib.toList_data, ByteArray.data_append, ByteArray.data_append, Array.toList_append, Array.toList_append, before_data]
  simp [Plain.head, Plain.place, h]
theorem gB_is {r s : ByteArray} {i : Nat} (h : Lib.indexByte r.data.toList 58 = (i : Nat)) : gB r s = ((s.toList == r.toList) || ((s.toList == (r.extract 0 i ++ ⟨#[58]⟩ ++ ⟨#[42]⟩ : ByteArray).toList) || (s.toList == [42]))) := by
  rw [head_is h, Lib.toList_data, Lib.toList_data]; rfl

set_option maxHeartbeats 400000 in
theorem grants_no (ao : Option Addr) (n cap : Nat) (r : ByteArray) (w : World) (hr : r.size ≤ 1048576) (hv : vreqB r = false) :
    Calls Try.prog 14 #[.slice ao n cap, .string r] w fun e w' => e = .returned (.bool false) ∧ ∃ n, w' = w.drewN n := by
  go_enter Try.func14, Try.ntmps14
  go_wp2_with (first | (go_at_call 10; refine (required_any _ _ hr).mono ?_; rintro e w' ⟨rfl, n1, rfl⟩))
  go_ret
  exact ⟨rfl, _, rfl⟩

set_option maxHeartbeats 1000000 in
theorem grants_yes (ao : Option Addr) (n cap : Nat) (ss : List ByteArray) (r : ByteArray) (w : World) (hn : n ≤ 65536) (hr : r.size ≤ 1048576) (hs : Strs w ao n ss) (hz : Sized ss) (hv : vreqB r = true) (i : Nat) (h : Lib.indexByte r.data.toList 58 = (i : Nat)) (hi : i < r.size) :
    Calls Try.prog 14 #[.slice ao n cap, .string r] w fun e w' => e = .returned (.bool (grantsB ss r)) ∧ ∃ n, w' = w.drewN n := by
  have H : Hid _ := h
  have HV : Hid _ := hv
  have G := fun s => gB_is (s := s) h
  have HG : Hid _ := G
  have HL : Hid _ := hs.1
  clear h G
  go_enter Try.func14, Try.ntmps14
  go_wp2_with (first | (go_at_call 10; refine (required_any _ _ hr).mono ?_; rintro e w' ⟨rfl, n1, rfl⟩) | (go_at_call 16; refine (cut_hit _ _ _ _ hr H.out hi).mono ?_; rintro e w' ⟨rfl, n2, rfl⟩))
  go_loop [9, 21] (fun c j => ∃ k : Nat, k ≤ n ∧ j = .int .i64 k ∧ Hid (∀ j, j < k → gB r (ss.getD j ByteArray.empty) = false)) (fun _ i => n - (intOf i).toNat)
  case atStart => exact ⟨0, Nat.zero_le _, rfl, fun j h => absurd h (Nat.not_lt_zero _)⟩
  case round =>
    clear hv
    obtain ⟨k, hk, rfl, hno⟩ := hrel
    by_cases hlt : k < n
    · obtain ⟨B, o, rfl, hc⟩ := hs.2 k hlt
      have hsz := hz k
      obtain ⟨s, es⟩ : ∃ s, s = ss.getD k ByteArray.empty := ⟨_, rfl⟩
      have ES : Hid _ := es
      rw [← es] at hc hsz
      have g := HG.out s
      clear es
      rcases bool_two (s.toList == r.toList) with t1 | t1
      · have E : Hid (true = grantsB ss r) := grantsB_hit (k := k) HV.out (by have := HL.out; omega) (by rw [← ES.out, g, t1]; rfl)
        clear g
        go_wp2
        go_ret
        exact ⟨ret_bool E.out, _, rfl⟩
      · rcases bool_two (s.toList == (r.extract 0 i ++ ⟨#[58]⟩ ++ ⟨#[42]⟩ : ByteArray).toList) with t2 | t2
        · have E : Hid (true = grantsB ss r) := grantsB_hit (k := k) HV.out (by have := HL.out; omega) (by rw [← ES.out, g, t1, t2]; rfl)
          clear g
          go_wp2
          go_ret
          exact ⟨ret_bool E.out, _, rfl⟩
        · rcases bool_two (s.toList == [42]) with t3 | t3
          · have E : Hid (true = grantsB ss r) := grantsB_hit (k := k) HV.out (by have := HL.out; omega) (by rw [← ES.out, g, t1, t2, t3]; rfl)
            clear g
            go_wp2
            go_ret
            exact ⟨ret_bool E.out, _, rfl⟩
          · have E : Hid (gB r (ss.getD k ByteArray.empty) = false) := by show _ = _; rw [← ES.out, g, t1, t2, t3]; rfl
            clear g
            go_wp2
            go_round
            case rel =>
              refine ⟨k + 1, by omega, by go_num, fun j hj => ?_⟩
              by_cases hjk : j = k
              · subst hjk; exact E.out
              · exact hno.out j (by omega)
            case measure => simp [intOf]; omega
    · have E : Hid (false = grantsB ss r) := grantsB_miss (by have := HL.out; omega) hno.out
      go_wp2
      go_ret
      exact ⟨ret_bool E.out, _, rfl⟩
theorem grants_any (ao : Option Addr) (n cap : Nat) (ss : List ByteArray) (r : ByteArray) (w : World) (hn : n ≤ 65536) (hr : r.size ≤ 1048576) (hs : Strs w ao n ss) (hz : Sized ss) :
    Calls Try.prog 14 #[.slice ao n cap, .string r] w fun e w' => e = .returned (.bool (grantsB ss r)) ∧ ∃ n, w' = w.drewN n := by
  rcases bool_two (vreqB r) with hv | hv
  · rcases colon_cases r with h | ⟨i, h, hi⟩
    · rw [vreqB_miss h] at hv; cases hv
    · exact grants_yes ao n cap ss r w hn hr hs hz hv i h hi
  · rw [← grantsB_not (ss := ss) hv]
    exact grants_no ao n cap r w hr hv
end Go.Proofs.Qxb6604201a
