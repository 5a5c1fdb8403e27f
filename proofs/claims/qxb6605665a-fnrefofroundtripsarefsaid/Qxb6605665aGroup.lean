import Derived.Test.Qxb6605665aCut
import Derived.WalkSpells
import Derived.WalkLawsBesides
namespace Go.Proofs.Qxb6605665a
open Go.RowKit

/-- A Ref as a value. -/
def ref (v k n m u : ByteArray) : Value := .agg #[.string v, .string k, .string n, .string m, .string u]
/-- The group of an apiVersion. -/
def groupB (s : ByteArray) : ByteArray := ⟨(Plain.group s.data.toList).toArray⟩
theorem before_data (s : ByteArray) (i : Nat) : (s.extract 0 i).data.toList = s.data.toList.take i := by rw [Lib.extract_data]; simp
theorem groupB_miss {s : ByteArray} (h : Lib.indexByte s.data.toList 47 = -1) : groupB s = ⟨#[]⟩ := by
  rw [groupB, Plain.group_none h]
theorem groupB_hit {s : ByteArray} {i : Nat} (h : Lib.indexByte s.data.toList 47 = (i : Nat)) : groupB s = s.extract 0 i := by
  have hne : ¬ ((i : Nat) : Int) = -1 := by omega
  rw [groupB, Plain.group, h, if_neg hne, Int.toNat_natCast, ← before_data, Lib.mk_data]
theorem below_drewN {B : Nat} {w w1 : World} (h : Below B w w1) (k : Nat) : Below B w (w1.drewN k) := ⟨h.os, h.tape, h.output, h.size, h.block⟩
theorem slash_cases (s : ByteArray) : Lib.indexByte s.data.toList 47 = -1 ∨ ∃ i : Nat, Lib.indexByte s.data.toList 47 = (i : Nat) ∧ i < s.size := by
  rcases Plain.parted 47 s.data.toList with ⟨_, h⟩ | ⟨a, b, _, _, h⟩
  · exact Or.inl h
  · exact Or.inr ⟨a.length, h, idx_lt h⟩

set_option maxHeartbeats 400000 in
theorem group_any (v k n m u : ByteArray) (w : World) (hv : v.size ≤ 4194304) :
    Calls Try.prog 33 #[.agg #[.string v, .string k, .string n, .string m, .string u]] w fun e w' => e = .returned (.string (groupB v)) ∧ Below w.heap.size w w' := by
  rcases slash_cases v with h | ⟨i, h, hi⟩
  · rw [groupB_miss h]
    have H : Hid _ := h
    clear h
    go_enter Try.func33, Try.ntmps33
    go_wp2_with (go_at_call 37; refine (cut_miss _ _ _ H.out).mono ?_; rintro e w9 ⟨rfl, hw⟩; subst w9)
    go_ret
    exact ⟨rfl, (Below.refl _ _).alloc (Nat.le_refl _) _⟩
  · rw [groupB_hit h]
    have H : Hid _ := h
    clear h
    go_enter Try.func33, Try.ntmps33
    go_wp2_with (go_at_call 37; refine (cut_hit _ _ _ _ hv H.out hi).mono ?_; rintro e w9 ⟨rfl, q, hw⟩; subst w9)
    go_ret
    exact ⟨rfl, below_drewN ((Below.refl _ _).alloc (Nat.le_refl _) _) _⟩

/-! ### zzTextBytes -/
set_option maxHeartbeats 400000 in
theorem text_small (s : ByteArray) (w : World) (h : s.size ≤ 1048576) :
    Calls Try.prog 19 #[.string s] w fun e w' => e = .returned (.int .i64 s.size) ∧ w' = w := by
  go_enter Try.func19, Try.ntmps19
  go_wp2
  go_ret
  exact ⟨rfl, rfl⟩

/-! ### zzSlash -/
theorem is_slash (c : UInt8) : ((c.toNat : Int) == 47) = decide (c = 47) := by
  rw [Bool.eq_iff_iff]
  simp only [beq_iff_eq, decide_eq_true_eq]
  rw [← UInt8.toNat_inj]
  have : (47 : UInt8).toNat = 47 := rfl
  omega
theorem get_at (s : ByteArray) (k : Nat) (h : k < s.size) : s.data.toList[k]? = some s[k] := by
  rw [List.getElem?_eq_getElem (by rw [← Lib.size_eq]; exact h)]; rfl
theorem ret_int {k : IntKind} {a b : Int} (h : a = b) : Ending.returned (.int k a) = .returned (.int k b) := by rw [h]
/-- The first '/' stands at k. -/
theorem index_found {s : ByteArray} {k : Nat} (hk : k < s.size) (hc : s[k] = 47) (hn : ∀ j, j < k → s.data.toList[j]? ≠ some 47) : (k : Int) = Lib.indexByte s.data.toList 47 := by
  rcases Plain.parted 47 s.data.toList with ⟨h, _⟩ | ⟨a, b, e, ha, h⟩
  · exact absurd (List.mem_of_getElem? (get_at s k hk)) (by rw [hc]; exact h)
  · have h1 : s.data.toList[a.length]? = some 47 := by rw [e]; simp
    have h2 : s.data.toList[k]? = some 47 := by rw [get_at s k hk, hc]
    rw [h]
    rcases Nat.lt_trichotomy k a.length with q | q | q
    · rw [e, List.getElem?_append_left q] at h2
      exact absurd (List.mem_of_getElem? h2) ha
    · rw [q]
    · exact absurd h1 (hn _ q)
theorem index_not {s : ByteArray} {k : Nat} (hk : s.size ≤ k) (hn : ∀ j, j < k → s.data.toList[j]? ≠ some 47) : (-1 : Int) = Lib.indexByte s.data.toList 47 := by
  symm
  apply Plain.index_none
  intro hm
  obtain ⟨j, hj⟩ := List.mem_iff_getElem?.1 hm
  have hl : j < s.data.toList.length := (List.getElem?_eq_some_iff.1 hj).1
  rw [← Lib.size_eq] at hl
  exact hn j (by omega) hj
set_option maxHeartbeats 400000 in
theorem slash_any (s : ByteArray) (w : World) (hs : s.size ≤ 4194304) :
    Calls Try.prog 30 #[.string s] w fun e w' => e = .returned (.int .i64 (Lib.indexByte s.data.toList 47)) ∧ w' = w := by
  go_enter Try.func30, Try.ntmps30
  go_wp2
  go_loop [3] (fun i => ∃ k : Nat, k ≤ s.size ∧ i = .int .i64 k ∧ Hid (∀ j, j < k → s.data.toList[j]? ≠ some 47)) (fun i => s.size - (intOf i).toNat)
  case atStart => exact ⟨0, Nat.zero_le _, rfl, fun j h => absurd h (Nat.not_lt_zero _)⟩
  case round =>
    obtain ⟨k, hk, rfl, hno⟩ := hrel
    by_cases hlt : k < s.size
    · have hb := is_slash s[k]
      by_cases hc : s[k] = 47
      · rw [decide_eq_true hc] at hb
        have E : Hid ((k : Int) = Lib.indexByte s.data.toList 47) := index_found hlt hc hno.out
        clear hc
        go_wp2
        go_ret
        exact ⟨ret_int E.out, rfl⟩
      · rw [decide_eq_false hc] at hb
        have E : Hid (s.data.toList[k]? ≠ some 47) := by
          show _ ≠ _
          rw [get_at s k hlt]
          exact fun e => hc (Option.some.inj e)
        clear hc
        go_wp2
        go_round
        case rel =>
          refine ⟨k + 1, by omega, by go_num, fun j hj => ?_⟩
          by_cases hjk : j = k
          · subst hjk; exact E.out
          · exact hno.out j (by omega)
        case measure => simp [intOf]; omega
    · have E : Hid ((-1 : Int) = Lib.indexByte s.data.toList 47) := index_not (by omega) hno.out
      go_wp2
      go_ret
      exact ⟨ret_int E.out, rfl⟩
end Go.Proofs.Qxb6605665a
