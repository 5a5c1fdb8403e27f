import Derived.Test.Qxb6604201aName
import Derived.Test.Qxb6604201aCut
namespace Go.Proofs.Qxb6604201a
open Go.RowKit

def vreqB (s : ByteArray) : Bool := Plain.vreq s.data.toList
def vvalidB (s : ByteArray) : Bool := Plain.vvalid s.data.toList

/-- The first colon of a string: none, or a place within it. -/
theorem colon_cases (s : ByteArray) : Lib.indexByte s.data.toList 58 = -1 ∨ ∃ i : Nat, Lib.indexByte s.data.toList 58 = (i : Nat) ∧ i < s.size := by
  rcases Plain.parted 58 s.data.toList with ⟨_, h⟩ | ⟨a, b, _, _, h⟩
  · exact Or.inl h
  · exact Or.inr ⟨a.length, h, idx_lt h⟩
theorem before_data (s : ByteArray) (i : Nat) : (s.extract 0 i).data.toList = s.data.toList.take i := by rw [Lib.extract_data]; simp
theorem after_data (s : ByteArray) (i : Nat) : (s.extract i s.size).data.toList = s.data.toList.drop i := by
  rw [Lib.extract_data, List.take_of_length_le]
  rw [List.length_drop, ← Lib.size_eq]
  exact Nat.le_refl _
theorem vreqB_miss {s : ByteArray} (h : Lib.indexByte s.data.toList 58 = -1) : vreqB s = false := by
  simp [vreqB, Plain.vreq, Plain.has, h]
theorem vreqB_hit {s : ByteArray} {i : Nat} (h : Lib.indexByte s.data.toList 58 = (i : Nat)) : vreqB s = (vnameB (s.extract 0 i) && vnameB (s.extract (i + 1) s.size)) := by
  unfold vreqB vnameB
  rw [before_data, after_data]
  simp [Plain.vreq, Plain.has, Plain.head, Plain.tail, Plain.place, h]
theorem vvalidB_star {s : ByteArray} (h : (s.toList == [42]) = true) : vvalidB s = true := by
  rw [Lib.toList_data] at h
  simp [vvalidB, Plain.vvalid, h]
theorem vvalidB_miss {s : ByteArray} (hs : (s.toList == [42]) = false) (h : Lib.indexByte s.data.toList 58 = -1) : vvalidB s = false := by
  rw [Lib.toList_data] at hs
  simp [vvalidB, Plain.vvalid, Plain.has, h, hs]
theorem vvalidB_hit {s : ByteArray} {i : Nat} (hs : (s.toList == [42]) = false) (h : Lib.indexByte s.data.toList 58 = (i : Nat)) : vvalidB s = (vnameB (s.extract 0 i) && (((s.extract (i + 1) s.size).toList == [42]) || vnameB (s.extract (i + 1) s.size))) := by
  rw [Lib.toList_data] at hs
  unfold vvalidB vnameB
  rw [Lib.toList_data, before_data, after_data]
  simp [Plain.vvalid, Plain.has, Plain.head, Plain.tail, Plain.place, h, hs]
theorem extract_le {s : ByteArray} {N : Nat} (h : s.size ≤ N) (hN : N ≤ 1048576) (a b : Nat) : (s.extract a b).size ≤ maxLen := by
  unfold maxLen
  rw [ByteArray.size_extract]
  omega

set_option maxHeartbeats 400000 in
theorem required_any (s : ByteArray) (w : World) (hs : s.size ≤ 1048576) :
    Calls Try.prog 10 #[.string s] w fun e w' => e = .returned (.bool (vreqB s)) ∧ ∃ n, w' = w.drewN n := by
  have hx := extract_le hs (Nat.le_refl _)
  rcases colon_cases s with h | ⟨i, h, hi⟩
  · have E : Hid (false = vreqB s) := (vreqB_miss h).symm
    have H : Hid _ := h
    clear h
    go_enter Try.func10, Try.ntmps10
    go_wp2_with (go_at_call 16; refine (cut_miss _ _ _ H.out).mono ?_; rintro e w' ⟨rfl, rfl⟩)
    go_ret
    exact ⟨ret_bool E.out, 0, rfl⟩
  · have E : Hid (vreqB s = (vnameB (s.extract 0 i) && vnameB (s.extract (i + 1) s.size))) := vreqB_hit h
    have H : Hid _ := h
    clear h
    by_cases h1 : vnameB (s.extract 0 i) = true
    · by_cases h2 : vnameB (s.extract (i + 1) s.size) = true
      · have E2 : Hid (true = vreqB s) := by show _ = _; rw [E.out, h1, h2]; rfl
        go_enter Try.func10, Try.ntmps10
        go_wp2_with (first | (go_at_call 16; refine (cut_hit _ _ _ _ hs H.out hi).mono ?_; rintro e w' ⟨rfl, n, rfl⟩) | (go_at_call 17; refine (validName_any _ _ (hx _ _)).mono ?_; rintro e w' ⟨rfl, rfl⟩))
        go_ret
        exact ⟨ret_bool E2.out, _, rfl⟩
      · have h2' : vnameB (s.extract (i + 1) s.size) = false := by simpa using h2
        have E2 : Hid (false = vreqB s) := by show _ = _; rw [E.out, h1, h2']; rfl
        clear h2
        go_enter Try.func10, Try.ntmps10
        go_wp2_with (first | (go_at_call 16; refine (cut_hit _ _ _ _ hs H.out hi).mono ?_; rintro e w' ⟨rfl, n, rfl⟩) | (go_at_call 17; refine (validName_any _ _ (hx _ _)).mono ?_; rintro e w' ⟨rfl, rfl⟩))
        go_ret
        exact ⟨ret_bool E2.out, _, rfl⟩
    · have h1' : vnameB (s.extract 0 i) = false := by simpa using h1
      have E2 : Hid (false = vreqB s) := by show _ = _; rw [E.out, h1']; rfl
      clear h1
      go_enter Try.func10, Try.ntmps10
      go_wp2_with (first | (go_at_call 16; refine (cut_hit _ _ _ _ hs H.out hi).mono ?_; rintro e w' ⟨rfl, n, rfl⟩) | (go_at_call 17; refine (validName_any _ _ (hx _ _)).mono ?_; rintro e w' ⟨rfl, rfl⟩))
      go_ret
      exact ⟨ret_bool E2.out, _, rfl⟩

set_option maxHeartbeats 400000 in
theorem valid_any (s : ByteArray) (w : World) (hs : s.size ≤ 1048576) :
    Calls Try.prog 7 #[.string s] w fun e w' => e = .returned (.bool (vvalidB s)) ∧ ∃ n, w' = w.drewN n := by
  have hx := extract_le hs (Nat.le_refl _)
  by_cases h0 : (s.toList == [42]) = true
  · have E : Hid (true = vvalidB s) := (vvalidB_star h0).symm
    go_enter Try.func7, Try.ntmps7
    go_wp2
    go_ret
    exact ⟨ret_bool E.out, 0, rfl⟩
  · have h0' : (s.toList == [42]) = false := by simpa using h0
    clear h0
    rcases colon_cases s with h | ⟨i, h, hi⟩
    · have E : Hid (false = vvalidB s) := (vvalidB_miss h0' h).symm
      have H : Hid _ := h
      clear h
      go_enter Try.func7, Try.ntmps7
      go_wp2_with (go_at_call 16; refine (cut_miss _ _ _ H.out).mono ?_; rintro e w' ⟨rfl, rfl⟩)
      go_ret
      exact ⟨ret_bool E.out, 0, rfl⟩
    · have E : Hid (vvalidB s = _) := vvalidB_hit h0' h
      have H : Hid _ := h
      clear h
      by_cases h1 : vnameB (s.extract 0 i) = true
      · by_cases h3 : ((s.extract (i + 1) s.size).toList == [42]) = true
        · have E2 : Hid (true = vvalidB s) := by show _ = _; rw [E.out, h1, h3]; rfl
          go_enter Try.func7, Try.ntmps7
          go_wp2_with (first | (go_at_call 16; refine (cut_hit _ _ _ _ hs H.out hi).mono ?_; rintro e w' ⟨rfl, n, rfl⟩) | (go_at_call 17; refine (validName_any _ _ (hx _ _)).mono ?_; rintro e w' ⟨rfl, rfl⟩))
          go_ret
          exact ⟨ret_bool E2.out, _, rfl⟩
        · have h3' : ((s.extract (i + 1) s.size).toList == [42]) = false := by simpa using h3
          clear h3
          by_cases h2 : vnameB (s.extract (i + 1) s.size) = true
          · have E2 : Hid (true = vvalidB s) := by show _ = _; rw [E.out, h1, h2, h3']; rfl
            go_enter Try.func7, Try.ntmps7
            go_wp2_with (first | (go_at_call 16; refine (cut_hit _ _ _ _ hs H.out hi).mono ?_; rintro e w' ⟨rfl, n, rfl⟩) | (go_at_call 17; refine (validName_any _ _ (hx _ _)).mono ?_; rintro e w' ⟨rfl, rfl⟩))
            go_ret
            exact ⟨ret_bool E2.out, _, rfl⟩
          · have h2' : vnameB (s.extract (i + 1) s.size) = false := by simpa using h2
            have E2 : Hid (false = vvalidB s) := by show _ = _; rw [E.out, h1, h2', h3']; rfl
            clear h2
            go_enter Try.func7, Try.ntmps7
            go_wp2_with (first | (go_at_call 16; refine (cut_hit _ _ _ _ hs H.out hi).mono ?_; rintro e w' ⟨rfl, n, rfl⟩) | (go_at_call 17; refine (validName_any _ _ (hx _ _)).mono ?_; rintro e w' ⟨rfl, rfl⟩))
            go_ret
            exact ⟨ret_bool E2.out, _, rfl⟩
      · have h1' : vnameB (s.extract 0 i) = false := by simpa using h1
        have E2 : Hid (false = vvalidB s) := by show _ = _; rw [E.out, h1']; rfl
        clear h1
        go_enter Try.func7, Try.ntmps7
        go_wp2_with (first | (go_at_call 16; refine (cut_hit _ _ _ _ hs H.out hi).mono ?_; rintro e w' ⟨rfl, n, rfl⟩) | (go_at_call 17; refine (validName_any _ _ (hx _ _)).mono ?_; rintro e w' ⟨rfl, rfl⟩))
        go_ret
        exact ⟨ret_bool E2.out, _, rfl⟩
end Go.Proofs.Qxb6604201a
