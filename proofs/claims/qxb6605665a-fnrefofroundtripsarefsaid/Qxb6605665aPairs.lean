import Derived.Test.Qxb6605665aSame
import Derived.OwnWalk
import Derived.Laws.OwnMore
import Derived.Lib.SliceRun
import Derived.OpenShut
namespace Go.Proofs.Qxb6605665a
open Go.RowKit

/-! ### Pairs of texts, as they lie in memory -/
abbrev Pr := ByteArray × ByteArray
def noPair : Pr := (ByteArray.empty, ByteArray.empty)
/-- A slice of pairs: n of them, from ao on. -/
def Pairs (w : World) (ao : Option Addr) (n : Nat) (ps : List Pr) : Prop :=
  ps.length = n ∧ ∀ i, i < n → ∃ B o, ao = some ⟨B, o, none⟩ ∧ w.cell? ⟨B, o + i * 2, none⟩ = some (.string (ps.getD i noPair).1) ∧ w.cell? ⟨B, o + i * 2 + 1, none⟩ = some (.string (ps.getD i noPair).2)
def PSized (ps : List Pr) : Prop := ∀ i, (ps.getD i noPair).1.size ≤ 9223372036854775807 ∧ (ps.getD i noPair).2.size ≤ 9223372036854775807
/-- Their cells, one behind the other. -/
def flat : List Pr → List Value
  | [] => []
  | p :: l => .string p.1 :: .string p.2 :: flat l
theorem flat_len : ∀ l : List Pr, (flat l).length = l.length * 2
  | [] => rfl
  | p :: l => by simp only [flat, List.length_cons, flat_len l]; omega
theorem flat_append : ∀ a b : List Pr, flat (a ++ b) = flat a ++ flat b
  | [], b => rfl
  | p :: a, b => by simp only [List.cons_append, flat, flat_append a b]
theorem flat_one : ∀ (l : List Pr), ∀ u ∈ flat l, u.oneCell' = true
  | [], u, h => by cases h
  | p :: l, u, h => by
    simp only [flat, List.mem_cons] at h
    rcases h with rfl | rfl | h
    · rfl
    · rfl
    · exact flat_one l u h
theorem flat_get : ∀ (l : List Pr) (i : Nat), (flat l)[i * 2]? = (l[i]?).map (fun p => Value.string p.1) ∧ (flat l)[i * 2 + 1]? = (l[i]?).map (fun p => Value.string p.2)
  | [], i => by simp [flat]
  | p :: l, 0 => by simp [flat]
  | p :: l, i + 1 => by
    have h := flat_get l i
    rw [show (i + 1) * 2 = (i * 2 + 1) + 1 by omega, show (i * 2 + 1) + 1 + 1 = (i * 2 + 1 + 1) + 1 by omega]
    simp only [flat, List.getElem?_cons_succ]
    exact h
theorem flat_set : ∀ (l : List Pr) (i : Nat) (p : Pr), flat (l.set i p) = ((flat l).set (i * 2) (.string p.1)).set (i * 2 + 1) (.string p.2)
  | [], i, p => by simp [flat]
  | q :: l, 0, p => by simp [flat]
  | q :: l, i + 1, p => by
    have h := flat_set l i p
    rw [show (i + 1) * 2 = (i * 2 + 1) + 1 by omega, show (i * 2 + 1) + 1 + 1 = (i * 2 + 1 + 1) + 1 by omega]
    simp only [List.set_cons_succ, flat, h]
theorem flat_none : ∀ n : Nat, flat (List.replicate n noPair) = List.replicate (n * 2) (.string ByteArray.empty)
  | 0 => rfl
  | n + 1 => by
    rw [List.replicate_succ, show (n + 1) * 2 = (n * 2 + 1) + 1 by omega, List.replicate_succ, List.replicate_succ, flat, flat_none n]
    rfl

/-- What the copy holds behind k rounds. -/
def part (ps : List Pr) (n k : Nat) : List Pr := ps.take k ++ List.replicate (n - k) noPair
theorem part_zero (ps : List Pr) (n : Nat) : part ps n 0 = List.replicate n noPair := by simp [part]
theorem part_full {ps : List Pr} {n k : Nat} (h : n ≤ k) (hl : ps.length = n) : part ps n k = ps := by
  rw [part, Nat.sub_eq_zero_of_le h, List.take_of_length_le (by omega)]; simp
theorem part_step {ps : List Pr} {n k : Nat} (hk : k < n) (hl : ps.length = n) : (part ps n k).set k (ps.getD k noPair) = part ps n (k + 1) := by
  unfold part
  have hlen : (ps.take k).length = k := by rw [List.length_take]; omega
  rw [List.set_append, if_neg (by omega), hlen, Nat.sub_self, show n - k = (n - (k + 1)) + 1 by omega, List.replicate_succ, List.set_cons_zero]
  rw [List.take_succ_eq_append_getElem (by omega), List.append_assoc]
  congr 1
  simp [List.getElem?_eq_getElem (show k < ps.length by omega)]
theorem info38 : (Try.prog.info? 38).map (fun i => (i.zero, i.size, i.bytes)) = some (some (.agg #[.string ByteArray.empty, .string ByteArray.empty]), 2, 32) := by kernel_rfl
theorem made_two (n : Nat) : (madeCells #[Value.string ByteArray.empty, Value.string ByteArray.empty] (n * 2)).toList = flat (List.replicate n noPair) := by
  rw [flat_none]
  apply List.ext_getElem?
  intro i
  simp only [madeCells, Array.getElem?_toList, Array.getElem?_map, List.getElem?_replicate]
  by_cases h : i < n * 2
  · rw [if_pos h, Array.getElem?_eq_getElem (by simpa using h)]
    simp
    rcases (show i % 2 = 0 ∨ i % 2 = 1 by omega) with e | e <;> rw [e] <;> rfl
  · rw [if_neg h, Array.getElem?_eq_none (by simpa using h)]
    rfl
theorem pairs_of_own {w : World} {base g n cap : Nat} {ps : List Pr} (h : w.ownsRow base 38 2 (.slice (some ⟨g, 0, none⟩) n cap) n (flat ps)) : Pairs w (some ⟨g, 0, none⟩) n ps := by
  have hl : ps.length = n := by have := h.1; rw [flat_len] at this; omega
  refine ⟨hl, fun i hi => ⟨g, 0, rfl, ?_, ?_⟩⟩
  · rw [Nat.zero_add, h.cellAt (i * 2) (by omega), (flat_get ps i).1, List.getElem?_eq_getElem (by omega), List.getD_eq_getElem?_getD, List.getElem?_eq_getElem (by omega)]
    rfl
  · rw [Nat.zero_add, h.cellAt (i * 2 + 1) (by omega), (flat_get ps i).2, List.getElem?_eq_getElem (by omega), List.getD_eq_getElem?_getD, List.getElem?_eq_getElem (by omega)]
    rfl
theorem pairs_later {w w1 : World} {ao : Option Addr} {n : Nat} {ps : List Pr} (hb : Below w.heap.size w w1) (h : Pairs w ao n ps) : Pairs w1 ao n ps :=
  ⟨h.1, fun i hi => let ⟨B, o, e, c0, c1⟩ := h.2 i hi; ⟨B, o, e, cell_later hb c0, cell_later hb c1⟩⟩
theorem pairs_cells {w : World} {ao : Option Addr} {n : Nat} {ps : List Pr} (h : Pairs w ao n ps) : ∀ ad, ao = some ad → ∀ j u, (flat ps)[j]? = some u → w.cell? (ad.add j) = some u := by
  intro ad e j u hu
  have hj : j < ps.length * 2 := by have := (List.getElem?_eq_some_iff.1 hu).1; rwa [flat_len] at this
  have hl := h.1
  obtain ⟨B, o, eo, c0, c1⟩ := h.2 (j / 2) (by omega)
  obtain rfl := Option.some.inj (e.symm.trans eo)
  rw [Go.WideShapes.add_plain]
  have hlt : j / 2 < ps.length := by omega
  have hg : ps.getD (j / 2) noPair = ps[j / 2] := by rw [List.getD_eq_getElem?_getD, List.getElem?_eq_getElem hlt]; rfl
  rcases (show j % 2 = 0 ∨ j % 2 = 1 by omega) with q | q
  · have ej : j = j / 2 * 2 := by omega
    have f := (flat_get ps (j / 2)).1
    rw [← ej, hu, List.getElem?_eq_getElem hlt] at f
    rw [← ej, hg] at c0
    rw [c0, f]
    rfl
  · have ej : j = j / 2 * 2 + 1 := by omega
    have f := (flat_get ps (j / 2)).2
    rw [← ej, hu, List.getElem?_eq_getElem hlt] at f
    rw [show o + j / 2 * 2 + 1 = o + j by omega, hg] at c1
    rw [c1, f]
    rfl

/-! ### zzClonePairs -/
set_option maxHeartbeats 400000 in
theorem clone_nil (w : World) :
    Calls Try.prog 12 #[.slice none 0 0] w fun e w' => e = .returned (.slice none 0 0) ∧ w' = w := by
  have hnil := fun w => Lib.run_eql_slice_nil (P := Try.prog) w 22 38 none 0 0 0 0 Try.underlying22
  go_enter Try.func12, Try.ntmps12
  go_wp2
  go_ret
  exact ⟨rfl, rfl⟩
set_option maxHeartbeats 1000000 in
theorem clone_row (x : Addr) (n cap : Nat) (ps : List Pr) (w : World) (hn : n ≤ 1048576) (hp : Pairs w (some x) n ps) :
    Calls Try.prog 12 #[.slice (some x) n cap] w fun e w' => e = .returned (.slice (some ⟨w.heap.size, 0, none⟩) n n) ∧ Pairs w' (some ⟨w.heap.size, 0, none⟩) n ps ∧ Below w.heap.size w w' := by
  obtain ⟨i0, hi, hz0, hz1, hz2⟩ := info_parts info38
  have hnil := fun w => Lib.run_eql_slice_nil (P := Try.prog) w 22 38 (some x) n cap 0 0 Try.underlying22
  have hb2 : i0.bytes * n ≤ 281474976710656 := by rw [hz2]; omega
  have hb3 : n ≤ maxLen := by unfold maxLen; omega
  have HL : Hid _ := hp.1
  go_enter Try.func12, Try.ntmps12
  go_wp2_with (at_make; refine wpList_make_full _ rfl _ _ 22 rfl w.heap.size 38 i0 (.agg #[.string ByteArray.empty, .string ByteArray.empty]) 2 Try.underlying22 hi hz0 hz1 .i64 .i64 _ _ n rfl rfl rfl rfl hb2 hb3 (Nat.le_refl _) ?_)
  intro w1 hown hgrow
  have hown : w1.ownsRow w.heap.size 38 2 (.slice (some ⟨w.heap.size, 0, none⟩) n n) n (flat (List.replicate n noPair)) := by
    rw [← made_two]
    exact hown
  have hbel : Below w.heap.size w w1 := (Below.refl _ _).grown hgrow (Nat.le_refl _) (fun k h => by cases h)
  clear hgrow hi hz0 hz1 hz2 hb2 hnil
  go_wp2
  go_loopw [4] (fun i wr => ∃ k : Nat, k ≤ n ∧ i = .int .i64 k ∧ wr.ownsRow w.heap.size 38 2 (.slice (some ⟨w.heap.size, 0, none⟩) n n) n (flat (part ps n k)) ∧ Below w.heap.size w wr) (fun i _ => n - (intOf i).toNat)
  case atStart => exact ⟨0, Nat.zero_le _, rfl, by rw [part_zero]; exact hown, hbel⟩
  case round =>
    clear hown hbel
    obtain ⟨k, hk, rfl, hown, hbel⟩ := hrel
    by_cases hlt : k < n
    · obtain ⟨b, off, ex, hc0, hc1⟩ := hp.2 k hlt
      obtain rfl := Option.some.inj ex
      have hc0 := cell_later hbel hc0
      have hc1 := cell_later hbel hc1
      have f0 := hown.frozenAt (k * 2)
      have f1 := hown.frozenAt (k * 2 + 1)
      obtain ⟨v0, g0⟩ : ∃ v, wr.cell? ⟨w.heap.size, k * 2, none⟩ = some v := by
        rw [hown.cellAt (k * 2) (by omega)]
        exact ⟨_, List.getElem?_eq_getElem (by rw [hown.1]; omega)⟩
      obtain ⟨v1, g1⟩ : ∃ v, wr.cell? ⟨w.heap.size, k * 2 + 1, none⟩ = some v := by
        rw [hown.cellAt (k * 2 + 1) (by omega)]
        exact ⟨_, List.getElem?_eq_getElem (by rw [hown.1]; omega)⟩
      have ST : Hid (flat (part ps n (k + 1)) = ((flat (part ps n k)).set (k * 2) (.string (ps.getD k noPair).1)).set (k * 2 + 1) (.string (ps.getD k noPair).2)) := by
        show _ = _
        rw [← part_step hlt HL.out, flat_set]
      obtain ⟨a, ea⟩ : ∃ a, a = (ps.getD k noPair).1 := ⟨_, rfl⟩
      obtain ⟨c, ec⟩ : ∃ c, c = (ps.getD k noPair).2 := ⟨_, rfl⟩
      rw [← ea] at hc0 ST
      rw [← ec] at hc1 ST
      clear ea ec ex
      go_wp2
      go_roundw
      case rel =>
        obtain ⟨r1, _⟩ := hown.stored (k * 2) (.string a)
        obtain ⟨r2, _⟩ := r1.stored (k * 2 + 1) (.string c)
        refine ⟨k + 1, by omega, by go_num, ?_, (hbel.setCell (Nat.le_refl _) _).setCell (Nat.le_refl _) _⟩
        rw [ST.out]
        exact r2
      case measure => simp [intOf]; omega
    · have hkn : k = n := by omega
      subst hkn
      rw [part_full (Nat.le_refl _) HL.out] at hown
      have hst := pairs_of_own hown
      have HST : Hid _ := hst
      clear hst hp hown
      go_wp2
      go_ret
      exact ⟨rfl, HST.out, hbel⟩
end Go.Proofs.Qxb6605665a
