import Derived.Lib.BytesEntry
import Derived.Lib.IndexLaws
namespace Go.Proofs.Qxb6604695a

/-- No LF among the numbers; the first LF stands at p. -/
def NoLF (zs : List Int) : Prop := ∀ j, j < zs.length → zs.getD j 0 ≠ 10
def LFAt (zs : List Int) (p : Nat) : Prop := p < zs.length ∧ zs.getD p 0 = 10 ∧ ∀ j, j < p → zs.getD j 0 ≠ 10
/-- Each number is a byte. -/
def Bytes (zs : List Int) : Prop := ∀ x ∈ zs, 0 ≤ x ∧ x ≤ 255

theorem lf_cases : ∀ zs : List Int, NoLF zs ∨ ∃ p, LFAt zs p
  | [] => Or.inl (fun j h => absurd h (by simp))
  | x :: l => by
    by_cases hx : x = 10
    · exact Or.inr ⟨0, by simp, by simp [hx], fun j h => absurd h (by omega)⟩
    · rcases lf_cases l with h | ⟨p, h1, h2, h3⟩
      · left
        intro j hj
        cases j with
        | zero => simpa using hx
        | succ j => simpa using h j (by simpa using hj)
      · right
        refine ⟨p + 1, by simpa using h1, by simpa using h2, fun j hj => ?_⟩
        cases j with
        | zero => simpa using hx
        | succ j => simpa using h3 j (by omega)

theorem bytesOf_at {zs : List Int} {j : Nat} (h : j < zs.length) : (Lib.bytesOf zs)[j]? = some (UInt8.ofNat (zs.getD j 0).toNat) := by
  simp [Lib.bytesOf, List.getElem?_map, List.getElem?_eq_getElem h]
theorem byte_ten {x : Int} (h0 : 0 ≤ x) (h1 : x ≤ 255) (h : UInt8.ofNat x.toNat = 10) : x = 10 := by
  have := congrArg UInt8.toNat h
  rw [UInt8.toNat_ofNat'] at this
  have e : (10 : UInt8).toNat = 10 := rfl
  omega
theorem getD_bytes {zs : List Int} (hb : Bytes zs) {j : Nat} (h : j < zs.length) : 0 ≤ zs.getD j 0 ∧ zs.getD j 0 ≤ 255 := by
  rw [List.getD_eq_getElem?_getD, List.getElem?_eq_getElem h]
  exact hb _ (List.getElem_mem h)
theorem index_none {zs : List Int} (hb : Bytes zs) (h : NoLF zs) : Lib.indexByte (Lib.bytesOf zs) 10 = -1 := by
  have hge := Lib.indexByte_ge (Lib.bytesOf zs) 10
  by_cases e : Lib.indexByte (Lib.bytesOf zs) 10 = -1
  · exact e
  · exfalso
    obtain ⟨o, ho⟩ : ∃ o : Nat, Lib.indexByte (Lib.bytesOf zs) 10 = o := ⟨(Lib.indexByte (Lib.bytesOf zs) 10).toNat, by omega⟩
    have h1 := (Lib.indexByte_some ho).1
    have hl : o < zs.length := by
      have := (List.getElem?_eq_some_iff.1 h1).1
      rwa [Lib.bytesOf_length] at this
    rw [bytesOf_at hl] at h1
    have hr := getD_bytes hb hl
    exact h o hl (byte_ten hr.1 hr.2 (Option.some.inj h1))
theorem index_at {zs : List Int} {p : Nat} (hb : Bytes zs) (h : LFAt zs p) : Lib.indexByte (Lib.bytesOf zs) 10 = (p : Nat) := by
  obtain ⟨h1, h2, h3⟩ := h
  have hge := Lib.indexByte_ge (Lib.bytesOf zs) 10
  have hp : (Lib.bytesOf zs)[p]? = some 10 := by rw [bytesOf_at h1, h2]; rfl
  by_cases e : Lib.indexByte (Lib.bytesOf zs) 10 = -1
  · exact absurd hp (Lib.indexByte_none e p)
  · obtain ⟨o, ho⟩ : ∃ o : Nat, Lib.indexByte (Lib.bytesOf zs) 10 = o := ⟨(Lib.indexByte (Lib.bytesOf zs) 10).toNat, by omega⟩
    obtain ⟨q1, q2⟩ := Lib.indexByte_some ho
    have hl : o < zs.length := by
      have := (List.getElem?_eq_some_iff.1 q1).1
      rwa [Lib.bytesOf_length] at this
    rcases Nat.lt_trichotomy o p with q | q | q
    · rw [bytesOf_at hl] at q1
      have hr := getD_bytes hb hl
      exact absurd (byte_ten hr.1 hr.2 (Option.some.inj q1)) (h3 o q)
    · rw [ho, q]
    · exact absurd hp (q2 p q)

/-- A CR LF pair stands at j. -/
def Pair (zs : List Int) (j : Nat) : Prop := j + 1 < zs.length ∧ zs.getD j 0 = 13 ∧ zs.getD (j + 1) 0 = 10
/-- Where the first LF's line ends in CR LF, the first pair is just ahead of that LF; else no pair is there. -/
theorem pair_first {zs : List Int} {p k : Nat} (h : LFAt zs p) (h1 : 1 ≤ p) (hc : zs.getD (p - 1) 0 = 13) (hk : Pair zs k) (hn : ∀ j, j < k → ¬ Pair zs j) : k + 1 = p := by
  rcases Nat.lt_trichotomy (k + 1) p with q | q | q
  · exact absurd hk.2.2 (h.2.2 _ q)
  · exact q
  · have hp : Pair zs (p - 1) := ⟨by have := h.1; omega, hc, by rw [show p - 1 + 1 = p by omega]; exact h.2.1⟩
    exact absurd hp (hn (p - 1) (by omega))
theorem pair_none {zs : List Int} {p : Nat} (h : LFAt zs p) (h1 : 1 ≤ p) (hc : zs.getD (p - 1) 0 = 13) : Pair zs (p - 1) :=
  ⟨by have := h.1; omega, hc, by rw [show p - 1 + 1 = p by omega]; exact h.2.1⟩
theorem pair_off {zs : List Int} {p k : Nat} (hc : p = 0 ∨ zs.getD (p - 1) 0 ≠ 13) (hk : Pair zs k) : k + 1 ≠ p := by
  rintro rfl
  rcases hc with h | h
  · omega
  · exact h (by simpa using hk.2.1)

end Go.Proofs.Qxb6604695a
