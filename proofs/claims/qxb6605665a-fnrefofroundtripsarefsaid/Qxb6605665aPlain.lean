import Derived.Lib.Bytealg
namespace Go.Proofs.Qxb6605665a.Plain
open Go

/-- The first c of l parts it: none is there, or l is a, c, b and a holds none. -/
theorem parted (c : UInt8) : ∀ l : List UInt8, (c ∉ l ∧ Lib.indexByte l c = -1) ∨ ∃ a b, l = a ++ c :: b ∧ c ∉ a ∧ Lib.indexByte l c = (a.length : Nat)
  | [] => Or.inl ⟨by simp, rfl⟩
  | x :: l => by
    by_cases hx : x = c
    · subst hx
      exact Or.inr ⟨[], l, rfl, by simp, by simp [Lib.indexByte]⟩
    · rcases parted c l with ⟨h1, h2⟩ | ⟨a, b, rfl, ha, hi⟩
      · left
        refine ⟨by simp only [List.mem_cons, not_or]; exact ⟨fun e => hx e.symm, h1⟩, ?_⟩
        simp [Lib.indexByte, hx, h2]
      · right
        refine ⟨x :: a, b, rfl, by simp only [List.mem_cons, not_or]; exact ⟨fun e => hx e.symm, ha⟩, ?_⟩
        have hne : ¬ ((a.length : Nat) : Int) = -1 := by omega
        simp [Lib.indexByte, hx, hi, hne]


/-- The group of an apiVersion: what stands ahead of the first '/', or nothing. -/
def group (l : List UInt8) : List UInt8 := if Lib.indexByte l 47 = -1 then [] else l.take (Lib.indexByte l 47).toNat

theorem index_split {a b : List UInt8} (ha : (47 : UInt8) ∉ a) : Lib.indexByte (a ++ 47 :: b) 47 = (a.length : Nat) := by
  induction a with
  | nil => simp [Lib.indexByte]
  | cons x a ih =>
    simp only [List.mem_cons, not_or] at ha
    have := ih ha.2
    have hx : ¬ x = 47 := fun e => ha.1 e.symm
    have hne : ¬ ((a.length : Nat) : Int) = -1 := by omega
    simp [Lib.indexByte, hx, this, hne]
theorem index_none {l : List UInt8} (h : (47 : UInt8) ∉ l) : Lib.indexByte l 47 = -1 := by
  rcases parted 47 l with ⟨_, q⟩ | ⟨a, b, rfl, _, _⟩
  · exact q
  · exact absurd (by simp) h
theorem group_none {l : List UInt8} (h : Lib.indexByte l 47 = -1) : group l = [] := by simp [group, h]
theorem group_split {a b : List UInt8} (ha : (47 : UInt8) ∉ a) : group (a ++ 47 :: b) = a := by
  have h := index_split (b := b) ha
  have hne : ¬ ((a.length : Nat) : Int) = -1 := by omega
  simp [group, h, hne]
theorem none_iff {l : List UInt8} : Lib.indexByte l 47 = -1 ↔ (47 : UInt8) ∉ l := by
  constructor
  · intro h
    rcases parted 47 l with ⟨q, _⟩ | ⟨a, b, rfl, _, q⟩
    · exact q
    · omega
  · exact index_none

/-- The version's part behind the first '/' does not matter. -/
theorem group_version (l t : List UInt8) {i : Nat} (h : Lib.indexByte l 47 = (i : Nat)) : group (l.take (i + 1) ++ t) = group l := by
  rcases parted 47 l with ⟨_, q⟩ | ⟨a, b, rfl, ha, q⟩
  · omega
  · have hi : i = a.length := by omega
    subst hi
    have e : (a ++ 47 :: b).take (a.length + 1) = a ++ [47] := by
      rw [show a.length + 1 = (a ++ [(47 : UInt8)]).length by simp, show a ++ 47 :: b = (a ++ [47]) ++ b by simp, List.take_left]
    rw [e, group_split ha, show a ++ [47] ++ t = a ++ 47 :: t by simp, group_split ha]
/-- A text put ahead of an apiVersion with a group changes the group. -/
theorem group_ahead {s l : List UInt8} (hs : s ≠ []) (hn : (47 : UInt8) ∉ s) {i : Nat} (h : Lib.indexByte l 47 = (i : Nat)) : group (s ++ l) ≠ group l := by
  rcases parted 47 l with ⟨_, q⟩ | ⟨a, b, rfl, ha, q⟩
  · omega
  · rw [group_split ha, ← List.append_assoc, group_split (by simp [hn, ha])]
    intro e
    have := congrArg List.length e
    simp at this
    exact hs this
/-- .. and without one leaves it without one. -/
theorem group_core {s l : List UInt8} (hn : (47 : UInt8) ∉ s) (h : Lib.indexByte l 47 = -1) : group (s ++ l) = [] := by
  apply group_none
  rw [none_iff] at h ⊢
  simp [hn, h]
theorem group_moved {s l : List UInt8} (hn : (47 : UInt8) ∉ s) : group (s ++ [47] ++ l) = s := by
  rw [show s ++ [47] ++ l = s ++ 47 :: l by simp, group_split hn]
end Go.Proofs.Qxb6605665a.Plain
