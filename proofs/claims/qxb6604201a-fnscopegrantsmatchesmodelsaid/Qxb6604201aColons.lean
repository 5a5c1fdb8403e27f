import Derived.Test.Qxb6604201aModel
namespace Go.Proofs.Qxb6604201a
open Go.RowKit

theorem index_snoc (c x : UInt8) : ∀ l : List UInt8, Lib.indexByte (l ++ [x]) c = if Lib.indexByte l c = -1 then (if x = c then (l.length : Int) else -1) else Lib.indexByte l c
  | [] => by
    by_cases h : x = c <;> simp [Lib.indexByte, h]
  | y :: l => by
    have ih := index_snoc c x l
    have hge := Lib.indexByte_ge l c
    by_cases hy : y = c
    · subst hy; simp [Lib.indexByte]
    · by_cases h1 : Lib.indexByte l c = -1
      · rw [if_pos h1] at ih
        by_cases hx : x = c
        · subst hx
          rw [if_pos rfl] at ih
          have hne : ¬ (l.length : Int) = -1 := by omega
          simp [Lib.indexByte, hy, ih, h1, hne]
        · rw [if_neg hx] at ih
          simp [Lib.indexByte, hy, ih, h1, hx]
      · rw [if_neg h1] at ih
        have hne : ¬ Lib.indexByte l c + 1 = -1 := by omega
        simp [Lib.indexByte, hy, ih, h1, hne]
theorem is_colon (c : UInt8) : ((c.toNat : Int) == 58) = decide (c = 58) := by
  rw [Bool.eq_iff_iff]
  simp only [beq_iff_eq, decide_eq_true_eq]
  rw [← UInt8.toNat_inj]
  have : (58 : UInt8).toNat = 58 := rfl
  omega
theorem take_len {s : ByteArray} {k : Nat} (h : k ≤ s.size) : (s.data.toList.take k).length = k := by
  rw [List.length_take, toList_len]; omega
def cnt (s : ByteArray) (k : Nat) : Nat := (s.data.toList.take k).count 58
def fst (s : ByteArray) (k : Nat) : Int := Lib.indexByte (s.data.toList.take k) 58
theorem cnt_le (s : ByteArray) (k : Nat) : cnt s k ≤ k := Nat.le_trans List.count_le_length (List.length_take_le _ _)
theorem cnt_hit {s : ByteArray} {k : Nat} (h : k < s.size) (hc : s[k] = 58) : cnt s (k + 1) = cnt s k + 1 := by
  unfold cnt; rw [take_snoc s k h, List.count_append, hc]; rfl
theorem cnt_miss {s : ByteArray} {k : Nat} (h : k < s.size) (hc : ¬ s[k] = 58) : cnt s (k + 1) = cnt s k := by
  unfold cnt; rw [take_snoc s k h, List.count_append, List.count_singleton]; simp [hc]
theorem fst_ge (s : ByteArray) (k : Nat) : -1 ≤ fst s k := Lib.indexByte_ge _ _
theorem fst_new {s : ByteArray} {k : Nat} (h : k < s.size) (hc : s[k] = 58) (hf : fst s k < 0) : fst s (k + 1) = k := by
  have h1 : fst s k = -1 := by have := fst_ge s k; omega
  unfold fst at h1 ⊢
  rw [take_snoc s k h, index_snoc, if_pos h1, if_pos hc, take_len (by omega)]
theorem fst_old {s : ByteArray} {k : Nat} (h : k < s.size) (hf : 0 ≤ fst s k) : fst s (k + 1) = fst s k := by
  have h1 : ¬ fst s k = -1 := by omega
  unfold fst at h1 ⊢
  rw [take_snoc s k h, index_snoc, if_neg h1]
theorem fst_miss {s : ByteArray} {k : Nat} (h : k < s.size) (hc : ¬ s[k] = 58) : fst s (k + 1) = fst s k := by
  unfold fst
  rw [take_snoc s k h, index_snoc, if_neg hc]
  by_cases h1 : Lib.indexByte (List.take k s.data.toList) 58 = -1
  · rw [if_pos h1, h1]
  · rw [if_neg h1]
theorem cnt_end {s : ByteArray} {k : Nat} (h : s.size ≤ k) : cnt s k = s.data.toList.count 58 := by
  unfold cnt; rw [List.take_of_length_le (by rw [toList_len]; exact h)]
theorem fst_end {s : ByteArray} {k : Nat} (h : s.size ≤ k) : fst s k = Lib.indexByte s.data.toList 58 := by
  unfold fst; rw [List.take_of_length_le (by rw [toList_len]; exact h)]
def nCol (s : ByteArray) : Nat := s.data.toList.count 58
theorem ret_two {a b c d : Int} (h1 : a = c) (h2 : b = d) : Ending.returned (.tuple #[.int .i64 a, .int .i64 b]) = .returned (.tuple #[.int .i64 c, .int .i64 d]) := by rw [h1, h2]

set_option maxHeartbeats 400000 in
theorem colons_any (s : ByteArray) (w : World) (hs : s.size ≤ 1048576) :
    Calls Try.prog 18 #[.string s] w fun e w' => e = .returned (.tuple #[.int .i64 ((nCol s : Nat) : Int), .int .i64 (Lib.indexByte s.data.toList 58)]) ∧ w' = w := by
  go_enter Try.func18, Try.ntmps18
  go_wp2
  go_loop [4, 5, 6] (fun c f i => ∃ (k n : Nat) (g : Int), k ≤ s.size ∧ n ≤ k ∧ i = .int .i64 k ∧ c = .int .i64 n ∧ f = .int .i64 g ∧ Hid (n = cnt s k) ∧ Hid (g = fst s k)) (fun _ _ i => s.size - (intOf i).toNat)
  case atStart => exact ⟨0, 0, -1, Nat.zero_le _, Nat.le_refl _, rfl, rfl, rfl, rfl, rfl⟩
  case round =>
    obtain ⟨k, n, g, hk, hn, rfl, rfl, rfl, en, eg⟩ := hrel
    by_cases hlt : k < s.size
    · have hb := is_colon s[k]
      by_cases hc : s[k] = 58
      · rw [decide_eq_true hc] at hb
        have HC : Hid _ := hc
        clear hc
        by_cases hg : g < 0
        · go_wp2
          go_round
          case rel => exact ⟨k + 1, n + 1, k, by omega, by omega, by go_num, by go_num, rfl, by show _ = _; rw [cnt_hit hlt HC.out, en.out], by show _ = _; rw [fst_new hlt HC.out (by rw [← eg.out]; exact hg)]⟩
          case measure => simp [intOf]; omega
        · have hg' : 0 ≤ g := by omega
          clear hg
          go_wp2
          go_round
          case rel => exact ⟨k + 1, n + 1, g, by omega, by omega, by go_num, by go_num, rfl, by show _ = _; rw [cnt_hit hlt HC.out, en.out], by show _ = _; rw [fst_old hlt (by rw [← eg.out]; exact hg'), eg.out]⟩
          case measure => simp [intOf]; omega
      · rw [decide_eq_false hc] at hb
        have HC : Hid _ := hc
        clear hc
        go_wp2
        go_round
        case rel => exact ⟨k + 1, n, g, by omega, by omega, by go_num, rfl, rfl, by show _ = _; rw [cnt_miss hlt HC.out, en.out], by show _ = _; rw [fst_miss hlt HC.out, eg.out]⟩
        case measure => simp [intOf]; omega
    · have E1 : Hid ((n : Int) = ((nCol s : Nat) : Int)) := by show _ = _; rw [en.out, cnt_end (by omega)]; rfl
      have E2 : Hid (g = Lib.indexByte s.data.toList 58) := by show _ = _; rw [eg.out, fst_end (by omega)]
      go_wp2
      go_ret2
      exact ⟨ret_two E1.out E2.out, rfl⟩

/-! ### scopeB1ModelValid, scopeB1ModelRequired -/
def mvalidB (s : ByteArray) : Bool := Plain.mvalid s.data.toList
def mreqB (s : ByteArray) : Bool := Plain.mreq s.data.toList
theorem mvalidB_star {s : ByteArray} (h : (s.toList == [42]) = true) : mvalidB s = true := by
  rw [Lib.toList_data] at h
  simp [mvalidB, Plain.mvalid, h]
theorem mvalidB_miss {s : ByteArray} (hs : (s.toList == [42]) = false) (h : ¬ nCol s = 1) : mvalidB s = false := by
  rw [Lib.toList_data] at hs
  unfold mvalidB Plain.mvalid
  rw [show decide (s.data.toList.count 58 = 1) = false from decide_eq_false h, hs]
  rfl
theorem mvalidB_hit {s : ByteArray} {i : Nat} (hs : (s.toList == [42]) = false) (hn : nCol s = 1) (h : Lib.indexByte s.data.toList 58 = (i : Nat)) : mvalidB s = (vnameB (s.extract 0 i) && (((s.extract (i + 1) s.size).toList == [42]) || vnameB (s.extract (i + 1) s.size))) := by
  rw [Lib.toList_data] at hs
  unfold mvalidB vnameB
  rw [Lib.toList_data, before_data, after_data]
  unfold Plain.mvalid
  rw [show decide (s.data.toList.count 58 = 1) = true from decide_eq_true hn, hs]
  simp [Plain.head, Plain.tail, Plain.place, h]
theorem mreqB_miss {s : ByteArray} (h : ¬ nCol s = 1) : mreqB s = false := by
  unfold mreqB Plain.mreq
  rw [show decide (s.data.toList.count 58 = 1) = false from decide_eq_false h]
  rfl
theorem mreqB_hit {s : ByteArray} {i : Nat} (hn : nCol s = 1) (h : Lib.indexByte s.data.toList 58 = (i : Nat)) : mreqB s = (vnameB (s.extract 0 i) && vnameB (s.extract (i + 1) s.size)) := by
  unfold mreqB vnameB
  rw [before_data, after_data]
  unfold Plain.mreq
  rw [show decide (s.data.toList.count 58 = 1) = true from decide_eq_true hn]
  simp [Plain.head, Plain.tail, Plain.place, h]
/-- One colon: the first one's place. -/
theorem one_colon {s : ByteArray} (hn : nCol s = 1) : ∃ i : Nat, Lib.indexByte s.data.toList 58 = (i : Nat) ∧ i < s.size := by
  rcases colon_cases s with h | h
  · exfalso
    rcases Plain.parted 58 s.data.toList with ⟨h1, _⟩ | ⟨a, b, _, _, h2⟩
    · rw [nCol, List.count_eq_zero.2 h1] at hn; omega
    · omega
  · exact h
theorem colons_not (s : ByteArray) (w : World) (hs : s.size ≤ 1048576) (hn : ¬ nCol s = 1) :
    Calls Try.prog 18 #[.string s] w fun e w' => (∃ n f : Int, (n == 1) = false ∧ e = .returned (.tuple #[.int .i64 n, .int .i64 f])) ∧ w' = w :=
  (colons_any s w hs).mono fun _ _ h => ⟨⟨_, _, beq_eq_false_iff_ne.2 (by omega), h.1⟩, h.2⟩
theorem colons_one (s : ByteArray) (w : World) (i : Nat) (hs : s.size ≤ 1048576) (hn : nCol s = 1) (h : Lib.indexByte s.data.toList 58 = (i : Nat)) :
    Calls Try.prog 18 #[.string s] w fun e w' => e = .returned (.tuple #[.int .i64 1, .int .i64 i]) ∧ w' = w :=
  (colons_any s w hs).mono fun _ _ q => ⟨by rw [q.1, hn, h]; rfl, q.2⟩

set_option maxHeartbeats 400000 in
theorem modelRequired_any (s : ByteArray) (w : World) (hs : s.size ≤ 1048576) :
    Calls Try.prog 20 #[.string s] w fun e w' => e = .returned (.bool (mreqB s)) ∧ w' = w := by
  have hx : ∀ a b, (s.extract a b).size ≤ 1048576 := fun a b => by rw [ByteArray.size_extract]; omega
  by_cases hn : nCol s = 1
  · obtain ⟨i, hi, hlt⟩ := one_colon hn
    have C := fun w => colons_one s w i hs hn hi
    have E : Hid (mreqB s = _) := mreqB_hit hn hi
    clear hn hi
    by_cases h1 : vnameB (s.extract 0 i) = true
    · by_cases h2 : vnameB (s.extract (i + 1) s.size) = true
      · have E2 : Hid (true = mreqB s) := by show _ = _; rw [E.out, h1, h2]; rfl
        go_enter Try.func20, Try.ntmps20
        go_wp2_with (first | (go_at_call 18; refine (C _).mono ?_; rintro e w' ⟨rfl, rfl⟩) | (go_at_call 19; refine (modelName_any _ _ (hx _ _)).mono ?_; rintro e w' ⟨rfl, rfl⟩))
        go_ret
        exact ⟨ret_bool E2.out, rfl⟩
      · have h2' : vnameB (s.extract (i + 1) s.size) = false := by simpa using h2
        have E2 : Hid (false = mreqB s) := by show _ = _; rw [E.out, h1, h2']; rfl
        clear h2
        go_enter Try.func20, Try.ntmps20
        go_wp2_with (first | (go_at_call 18; refine (C _).mono ?_; rintro e w' ⟨rfl, rfl⟩) | (go_at_call 19; refine (modelName_any _ _ (hx _ _)).mono ?_; rintro e w' ⟨rfl, rfl⟩))
        go_ret
        exact ⟨ret_bool E2.out, rfl⟩
    · have h1' : vnameB (s.extract 0 i) = false := by simpa using h1
      have E2 : Hid (false = mreqB s) := by show _ = _; rw [E.out, h1']; rfl
      clear h1
      go_enter Try.func20, Try.ntmps20
      go_wp2_with (first | (go_at_call 18; refine (C _).mono ?_; rintro e w' ⟨rfl, rfl⟩) | (go_at_call 19; refine (modelName_any _ _ (hx _ _)).mono ?_; rintro e w' ⟨rfl, rfl⟩))
      go_ret
      exact ⟨ret_bool E2.out, rfl⟩
  · have E2 : Hid (false = mreqB s) := (mreqB_miss hn).symm
    have C := fun w => colons_not s w hs hn
    clear hn
    go_enter Try.func20, Try.ntmps20
    go_wp2_with (go_at_call 18; refine (C _).mono ?_; rintro e w' ⟨⟨n, f, hnn, rfl⟩, rfl⟩)
    go_ret
    exact ⟨ret_bool E2.out, rfl⟩

set_option maxHeartbeats 400000 in
theorem modelValid_any (s : ByteArray) (w : World) (hs : s.size ≤ 1048576) :
    Calls Try.prog 8 #[.string s] w fun e w' => e = .returned (.bool (mvalidB s)) ∧ w' = w := by
  have hx : ∀ a b, (s.extract a b).size ≤ 1048576 := fun a b => by rw [ByteArray.size_extract]; omega
  by_cases h0 : (s.toList == [42]) = true
  · have E : Hid (true = mvalidB s) := (mvalidB_star h0).symm
    go_enter Try.func8, Try.ntmps8
    go_wp2
    go_ret
    exact ⟨ret_bool E.out, rfl⟩
  · have h0' : (s.toList == [42]) = false := by simpa using h0
    clear h0
    by_cases hn : nCol s = 1
    · obtain ⟨i, hi, hlt⟩ := one_colon hn
      have C := fun w => colons_one s w i hs hn hi
      have E : Hid (mvalidB s = _) := mvalidB_hit h0' hn hi
      clear hn hi
      by_cases h1 : vnameB (s.extract 0 i) = true
      · by_cases h3 : ((s.extract (i + 1) s.size).toList == [42]) = true
        · have E2 : Hid (true = mvalidB s) := by show _ = _; rw [E.out, h1, h3]; rfl
          go_enter Try.func8, Try.ntmps8
          go_wp2_with (first | (go_at_call 18; refine (C _).mono ?_; rintro e w' ⟨rfl, rfl⟩) | (go_at_call 19; refine (modelName_any _ _ (hx _ _)).mono ?_; rintro e w' ⟨rfl, rfl⟩))
          go_ret
          exact ⟨ret_bool E2.out, rfl⟩
        · have h3' : ((s.extract (i + 1) s.size).toList == [42]) = false := by simpa using h3
          clear h3
          by_cases h2 : vnameB (s.extract (i + 1) s.size) = true
          · have E2 : Hid (true = mvalidB s) := by show _ = _; rw [E.out, h1, h2, h3']; rfl
            go_enter Try.func8, Try.ntmps8
            go_wp2_with (first | (go_at_call 18; refine (C _).mono ?_; rintro e w' ⟨rfl, rfl⟩) | (go_at_call 19; refine (modelName_any _ _ (hx _ _)).mono ?_; rintro e w' ⟨rfl, rfl⟩))
            go_ret
            exact ⟨ret_bool E2.out, rfl⟩
          · have h2' : vnameB (s.extract (i + 1) s.size) = false := by simpa using h2
            have E2 : Hid (false = mvalidB s) := by show _ = _; rw [E.out, h1, h2', h3']; rfl
            clear h2
            go_enter Try.func8, Try.ntmps8
            go_wp2_with (first | (go_at_call 18; refine (C _).mono ?_; rintro e w' ⟨rfl, rfl⟩) | (go_at_call 19; refine (modelName_any _ _ (hx _ _)).mono ?_; rintro e w' ⟨rfl, rfl⟩))
            go_ret
            exact ⟨ret_bool E2.out, rfl⟩
      · have h1' : vnameB (s.extract 0 i) = false := by simpa using h1
        have E2 : Hid (false = mvalidB s) := by show _ = _; rw [E.out, h1']; rfl
        clear h1
        go_enter Try.func8, Try.ntmps8
        go_wp2_with (first | (go_at_call 18; refine (C _).mono ?_; rintro e w' ⟨rfl, rfl⟩) | (go_at_call 19; refine (modelName_any _ _ (hx _ _)).mono ?_; rintro e w' ⟨rfl, rfl⟩))
        go_ret
        exact ⟨ret_bool E2.out, rfl⟩
    · have E2 : Hid (false = mvalidB s) := (mvalidB_miss h0' hn).symm
      have C := fun w => colons_not s w hs hn
      clear hn
      go_enter Try.func8, Try.ntmps8
      go_wp2_with (go_at_call 18; refine (C _).mono ?_; rintro e w' ⟨⟨n, f, hnn, rfl⟩, rfl⟩)
      go_ret
      exact ⟨ret_bool E2.out, rfl⟩
end Go.Proofs.Qxb6604201a
