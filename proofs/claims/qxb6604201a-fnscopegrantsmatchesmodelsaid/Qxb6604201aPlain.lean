import Derived.Lib.Bytealg
namespace Go.Proofs.Qxb6604201a.Plain
open Go

/-- The first c of l parts it: none is there, or l is a, c, b and a holds none. -/
theorem parted (c : UInt8) : ∀ l : List UInt8, (c ∉ l ∧ Lib.indexByte l c = -1) ∨ ∃ a b, l = a ++ c :: b ∧ c ∉ a ∧ Lib.indexByte l c = (a.length : Nat)
  | [] => Or.inl ⟨by simp, rfl⟩
  | x :: l => by
    by_cases hx : x = c
    · subst hx
      exact Or.inr ⟨[], l, rfl, by simp, by simp [Lib.indexByte]⟩
    · rcases parted c l with ⟨h1, h2⟩ | ⟨a, b, rfl, ha, hi⟩
      · left
        refine ⟨by simp only [List.mem_cons, not_or]; exact ⟨fun e => hx e.symm, h1⟩, ?_⟩
        simp [Lib.indexByte, hx, h2]
      · right
        refine ⟨x :: a, b, rfl, by simp only [List.mem_cons, not_or]; exact ⟨fun e => hx e.symm, ha⟩, ?_⟩
        have hne : ¬ ((a.length : Nat) : Int) = -1 := by omega
        simp [Lib.indexByte, hx, hi, hne]

/-- A byte of a name. -/
def okc (c : UInt8) : Bool := (decide (97 ≤ c.toNat) && decide (c.toNat ≤ 122)) || ((decide (48 ≤ c.toNat) && decide (c.toNat ≤ 57)) || (decide (c.toNat = 95) || (decide (c.toNat = 45) || decide (c.toNat = 46))))
/-- A name: 1 to 64 such bytes. -/
def vname (l : List UInt8) : Bool := decide (1 ≤ l.length) && (decide (l.length ≤ 64) && l.all okc)
def place (l : List UInt8) : Nat := (Lib.indexByte l 58).toNat
def head (l : List UInt8) : List UInt8 := l.take (place l)
def tail (l : List UInt8) : List UInt8 := l.drop (place l + 1)
def has (l : List UInt8) : Bool := decide (0 ≤ Lib.indexByte l 58)
def vreq (l : List UInt8) : Bool := has l && (vname (head l) && vname (tail l))
def vvalid (l : List UInt8) : Bool := (l == [42]) || (has l && (vname (head l) && ((tail l == [42]) || vname (tail l))))

theorem has_no {l : List UInt8} (h : Lib.indexByte l 58 = -1) : has l = false := by simp [has, h]
theorem at_split {a b : List UInt8} (h : Lib.indexByte (a ++ 58 :: b) 58 = (a.length : Nat)) : has (a ++ 58 :: b) = true ∧ head (a ++ 58 :: b) = a ∧ tail (a ++ 58 :: b) = b := by
  refine ⟨by simp [has, h], ?_, ?_⟩
  · simp [head, place, h]
  · simp only [tail, place, h, Int.toNat_natCast]
    rw [show a.length + 1 = (a ++ [58]).length by simp, show a ++ 58 :: b = (a ++ [58]) ++ b by simp, List.drop_left]
theorem vname_colon {l : List UInt8} (h : (58 : UInt8) ∈ l) : vname l = false := by
  have : l.all okc = false := by
    rw [List.all_eq_false]
    exact ⟨58, h, by decide⟩
  simp [vname, this]
theorem index_of_split {a b : List UInt8} (ha : (58 : UInt8) ∉ a) : Lib.indexByte (a ++ 58 :: b) 58 = (a.length : Nat) := by
  induction a with
  | nil => simp [Lib.indexByte]
  | cons x a ih =>
    simp only [List.mem_cons, not_or] at ha
    have := ih ha.2
    have hx : ¬ x = 58 := fun e => ha.1 e.symm
    have hne : ¬ ((a.length : Nat) : Int) = -1 := by omega
    simp [Lib.indexByte, hx, this, hne]

/-- Does l end in ':', '*' ? -/
def starEnd (l : List UInt8) : Bool := decide (2 ≤ l.length) && ((l[l.length - 2]? == some 58) && (l[l.length - 1]? == some 42))

theorem law_one (l : List UInt8) : vvalid l = ((l == [42] || vreq l) || (starEnd l && vreq (l.take (l.length - 1) ++ [97]))) := by
  rcases parted 58 l with ⟨hn, hi⟩ | ⟨a, b, rfl, ha, hi⟩
  · have h1 := has_no hi
    have h2 : starEnd l = false := by
      simp only [starEnd]
      by_cases hl : 2 ≤ l.length
      · have : ¬ (l[l.length - 2]? = some 58) := fun e => hn (List.mem_of_getElem? e)
        simp [this]
      · simp [hl]
    simp [vvalid, vreq, h1, h2]
  · obtain ⟨e1, e2, e3⟩ := at_split hi
    have hs : ((a ++ 58 :: b) == [42]) = false := by
      cases a with
      | nil => simp
      | cons x a => simp
    by_cases hb : b = [42]
    · subst hb
      have h2 : starEnd (a ++ [58, 42]) = true := by simp [starEnd]
      have h3 : (a ++ [58, 42]).take ((a ++ [58, 42]).length - 1) ++ [97] = a ++ 58 :: [97] := by
        have e : (a ++ [(58 : UInt8), 42]).length - 1 = (a ++ [(58 : UInt8)]).length := by simp
        rw [e, show a ++ [(58 : UInt8), 42] = (a ++ [58]) ++ [42] by simp, List.take_left]; simp
      obtain ⟨f1, f2, f3⟩ := at_split (index_of_split (b := [97]) ha)
      have h4 : vname [97] = true := by decide
      rw [h2, h3]
      have h6 : vname [42] = false := by decide
      simp only [vvalid, vreq, e1, e2, e3, f1, f2, f3, h4, h6, hs]
      cases vname a <;> rfl
    · have hb2 : (b == [42]) = false := by simpa using hb
      have h5 : (starEnd (a ++ 58 :: b) && vreq ((a ++ 58 :: b).take ((a ++ 58 :: b).length - 1) ++ [97])) = false := by
        by_cases h2 : starEnd (a ++ 58 :: b) = true
        · rw [h2, Bool.true_and]
          simp only [starEnd, Bool.and_eq_true, decide_eq_true_eq, beq_iff_eq] at h2
          obtain ⟨_, h3, h4⟩ := h2
          have hlen : (a ++ 58 :: b).length = a.length + b.length + 1 := by simp; omega
          rw [hlen] at h3 h4
          have hb1 : b ≠ [] := by
            rintro rfl
            rw [List.getElem?_append_right (by simp)] at h4
            simp at h4
          have hb3 : b.length ≠ 1 := by
            intro h
            match b, h with
            | [x], _ =>
              rw [List.getElem?_append_right (by simp)] at h4
              simp at h4
              exact hb (by rw [h4])
          have hb4 : b.length ≠ 0 := fun h => hb1 (List.length_eq_zero_iff.1 h)
          have hlt : b.length - 2 < b.length - 1 := by omega
          rw [List.getElem?_append_right (by omega), show a.length + b.length + 1 - 2 - a.length = (b.length - 2) + 1 by omega, List.getElem?_cons_succ] at h3
          have hd : (a ++ 58 :: b).take ((a ++ 58 :: b).length - 1) ++ [97] = a ++ 58 :: (b.take (b.length - 1) ++ [97]) := by
            rw [hlen, List.take_append, List.take_of_length_le (by omega), show a.length + b.length + 1 - 1 - a.length = (b.length - 1) + 1 by omega, List.take_succ_cons]
            simp
          rw [hd]
          obtain ⟨f1, f2, f3⟩ := at_split (index_of_split (b := b.take (b.length - 1) ++ [97]) ha)
          have : vname (b.take (b.length - 1) ++ [97]) = false := by
            apply vname_colon
            rw [List.mem_append]
            left
            exact List.mem_of_getElem? (i := b.length - 2) (by rw [List.getElem?_take, if_pos hlt]; exact h3)
          simp [vreq, f1, f2, f3, this]
        · simp [h2]
      rw [h5]
      simp [vvalid, vreq, e1, e2, e3, hs, hb2]

/-! ### The model's side -/
def mvalid (l : List UInt8) : Bool := (l == [42]) || (decide (l.count 58 = 1) && (vname (head l) && ((tail l == [42]) || vname (tail l))))
def mreq (l : List UInt8) : Bool := decide (l.count 58 = 1) && (vname (head l) && vname (tail l))

theorem count_split {a b : List UInt8} (ha : (58 : UInt8) ∉ a) : (a ++ 58 :: b).count 58 = b.count 58 + 1 := by
  rw [List.count_append, List.count_cons_self, List.count_eq_zero.2 ha, Nat.zero_add]

theorem law_two (l : List UInt8) : vvalid l = mvalid l := by
  rcases parted 58 l with ⟨hn, hi⟩ | ⟨a, b, rfl, ha, hi⟩
  · have h1 := has_no hi
    have h2 : l.count 58 = 0 := List.count_eq_zero.2 hn
    simp [vvalid, mvalid, h1, h2]
  · obtain ⟨e1, e2, e3⟩ := at_split hi
    have hc := count_split (b := b) ha
    by_cases hb : (58 : UInt8) ∈ b
    · have h1 : vname b = false := vname_colon hb
      have h2 : (b == [42]) = false := by
        simp only [beq_eq_false_iff_ne]
        rintro rfl
        simp at hb
      have h3 : 0 < b.count 58 := List.count_pos_iff.2 hb
      have h4 : ¬ (b.count 58 + 1 = 1) := by omega
      simp [vvalid, mvalid, e1, e2, e3, h1, h2]
    · have h3 : b.count 58 = 0 := List.count_eq_zero.2 hb
      simp [vvalid, mvalid, e1, e2, e3, hc, h3]

theorem law_req (l : List UInt8) : vreq l = mreq l := by
  rcases parted 58 l with ⟨hn, hi⟩ | ⟨a, b, rfl, ha, hi⟩
  · have h1 := has_no hi
    have h2 : l.count 58 = 0 := List.count_eq_zero.2 hn
    simp [vreq, mreq, h1, h2]
  · obtain ⟨e1, e2, e3⟩ := at_split hi
    have hc := count_split (b := b) ha
    by_cases hb : (58 : UInt8) ∈ b
    · have h1 : vname b = false := vname_colon hb
      simp [vreq, mreq, e1, e2, e3, h1]
    · have h3 : b.count 58 = 0 := List.count_eq_zero.2 hb
      simp [vreq, mreq, e1, e2, e3, hc, h3]

/-- What one held scope grants, by the code and by the model. -/
def grant1 (r s : List UInt8) : Bool := (s == r) || ((s == head r ++ [58, 42]) || (s == [42]))
def under (r h : List UInt8) : Bool := starEnd h && (decide (h.length - 1 ≤ r.length) && (r.take (h.length - 1) == h.take (h.length - 1)))
def grant2 (r h : List UInt8) : Bool := ((h == [42]) || (h == r)) || under r h
def grants (hs : List (List UInt8)) (r : List UInt8) : Bool := vreq r && hs.any (grant1 r)
def mgrants (hs : List (List UInt8)) (r : List UInt8) : Bool := mreq r && hs.any (grant2 r)

theorem under_eq {r : List UInt8} (hr : vreq r = true) (h : List UInt8) : under r h = (h == head r ++ [58, 42]) := by
  rcases parted 58 r with ⟨hn, hi⟩ | ⟨a, b, rfl, ha, hi⟩
  · have h1 := has_no hi
    simp [vreq, h1] at hr
  · obtain ⟨e1, e2, e3⟩ := at_split hi
    rw [e2]
    have hb : (58 : UInt8) ∉ b := by
      intro hb
      have h1 : vname b = false := vname_colon hb
      simp [vreq, e1, e2, e3, h1] at hr
    rw [Bool.eq_iff_iff]
    simp only [under, starEnd, Bool.and_eq_true, decide_eq_true_eq, beq_iff_eq]
    constructor
    · rintro ⟨⟨h2, h3, h4⟩, h5, h6⟩
      have h7 : (a ++ 58 :: b)[h.length - 2]? = some 58 := by
        have e : ((a ++ 58 :: b).take (h.length - 1))[h.length - 2]? = (h.take (h.length - 1))[h.length - 2]? := by rw [h6]
        rw [List.getElem?_take, List.getElem?_take, if_pos (by omega), if_pos (by omega)] at e
        rw [e, h3]
      have h8 : h.length - 2 = a.length := by
        rcases Nat.lt_trichotomy (h.length - 2) a.length with q | q | q
        · rw [List.getElem?_append_left q] at h7
          exact absurd (List.mem_of_getElem? h7) ha
        · exact q
        · rw [List.getElem?_append_right (by omega), show h.length - 2 - a.length = (h.length - 2 - a.length - 1) + 1 by omega, List.getElem?_cons_succ] at h7
          exact absurd (List.mem_of_getElem? h7) hb
      have h9 : (a ++ 58 :: b).take (h.length - 1) = a ++ [58] := by
        rw [show h.length - 1 = (a ++ [(58 : UInt8)]).length by simp; omega, show a ++ 58 :: b = (a ++ [58]) ++ b by simp, List.take_left]
      have h10 : h = h.take (h.length - 1) ++ h.drop (h.length - 1) := (List.take_append_drop _ _).symm
      have h11 : h.drop (h.length - 1) = [42] := by
        rw [List.drop_eq_getElem_cons (by omega), List.drop_of_length_le (by omega)]
        rw [List.getElem?_eq_getElem (by omega)] at h4
        simpa using h4
      rw [h10, ← h6, h9, h11]
      simp
    · rintro rfl
      refine ⟨⟨by simp, by simp, by simp⟩, by simp, ?_⟩
      have e : (a ++ [(58 : UInt8), 42]).length - 1 = (a ++ [(58 : UInt8)]).length := by simp
      rw [e, show a ++ 58 :: b = (a ++ [58]) ++ b by simp, show a ++ [(58 : UInt8), 42] = (a ++ [58]) ++ [42] by simp, List.take_left, List.take_left]

theorem law_three (hs : List (List UInt8)) (r : List UInt8) : grants hs r = mgrants hs r := by
  unfold grants mgrants
  rw [← law_req]
  by_cases hr : vreq r = true
  · rw [hr, Bool.true_and, Bool.true_and]
    congr 1
    funext s
    unfold grant1 grant2
    rw [under_eq hr]
    cases (s == r) <;> cases (s == [42]) <;> cases (s == head r ++ [58, 42]) <;> rfl
  · simp [hr]

end Go.Proofs.Qxb6604201a.Plain
