import Derived.Test.Qxb6604695aCalls
import Derived.WalkSpells
import Derived.OpenShut
import Derived.OneCell
namespace Go.Proofs.Qxb6604695a
open Go.RowKit

theorem info5 : (Try.prog.info? 5).map (fun i => (i.zero, i.size, i.bytes)) = some (some (.int .u8 0), 1, 1) := by kernel_rfl

/-- What the copy holds behind k rounds: the first k numbers, then noughts. -/
def part (zs : List Int) (n k : Nat) : List Value := (zs.take k).map (Value.int .u8) ++ List.replicate (n - k) (.int .u8 0)
theorem part_zero (zs : List Int) (n : Nat) : part zs n 0 = List.replicate n (.int .u8 0) := by simp [part]
theorem part_full {zs : List Int} {n k : Nat} (h : n ≤ k) : part zs n k = (zs.take k).map (Value.int .u8) := by
  rw [part, Nat.sub_eq_zero_of_le h]; simp
theorem part_step {zs : List Int} {n k : Nat} (hk : k < n) (hz : n ≤ zs.length) : (part zs n k).set k (.int .u8 (zs.getD k 0)) = part zs n (k + 1) := by
  unfold part
  have hl : ((zs.take k).map (Value.int .u8)).length = k := by rw [List.length_map, List.length_take]; omega
  rw [List.set_append, if_neg (by omega), hl, Nat.sub_self, show n - k = (n - (k + 1)) + 1 by omega, List.replicate_succ, List.set_cons_zero]
  rw [List.take_succ_eq_append_getElem (by omega), List.map_append, List.append_assoc]
  congr 1
  simp [List.getElem?_eq_getElem (show k < zs.length by omega)]
theorem made_is (n : Nat) : (madeCells #[Value.int .u8 0] n).toList = List.replicate n (.int .u8 0) := by
  apply List.ext_getElem?
  intro i
  simp [madeCells, List.getElem?_replicate]
  by_cases h : i < n <;> simp [h, Nat.mod_one]

set_option maxHeartbeats 400000 in
theorem clone_nil (w : World) :
    Calls Try.prog 6 #[.slice none 0 0] w fun e w' => e = .returned (.slice none 0 0) ∧ w' = w := by
  have hnil := fun w => Lib.run_eql_slice_nil (P := Try.prog) w 22 5 none 0 0 0 0 Try.underlying22
  go_enter Try.func6, Try.ntmps6
  go_wp2
  go_ret
  exact ⟨rfl, rfl⟩

/-- The copy: a new row of the call's own that holds the n numbers. -/
def Copy (w w' : World) (n : Nat) (zs : List Int) : Prop :=
  w'.ownsRow w.heap.size 5 1 (.slice (some ⟨w.heap.size, 0, none⟩) n n) n ((zs.take n).map (Value.int .u8)) ∧ Below w.heap.size w w'

set_option maxHeartbeats 400000 in
theorem clone_row (x : Addr) (n cap : Nat) (zs : List Int) (w : World) (hn : n ≤ 1048576) (hz : n ≤ zs.length) (hc : ∀ i, i < zs.length → w.cell? (x.add i) = some (.int .u8 (zs.getD i 0))) :
    Calls Try.prog 6 #[.slice (some x) n cap] w fun e w' => e = .returned (.slice (some ⟨w.heap.size, 0, none⟩) n n) ∧ Copy w w' n zs := by
  obtain ⟨i0, hi, hz0, hz1, hz2⟩ := info_parts info5
  have hnil := fun w => Lib.run_eql_slice_nil (P := Try.prog) w 22 5 (some x) n cap 0 0 Try.underlying22
  have hb2 : i0.bytes * n ≤ 281474976710656 := by rw [hz2]; omega
  have hb3 : n ≤ maxLen := by unfold maxLen; omega
  have HC : Hid _ := hc
  have HZ : Hid _ := hz
  clear hc hz
  go_enter Try.func6, Try.ntmps6
  go_wp2_with (at_make; refine wpList_make_full _ rfl _ _ 22 rfl w.heap.size 5 i0 (.int .u8 0) 1 Try.underlying22 hi hz0 hz1 .i64 .i64 _ _ n rfl rfl rfl rfl hb2 hb3 (Nat.le_refl _) ?_)
  intro w1 hown hgrow
  rw [made_is] at hown
  have hbel : Below w.heap.size w w1 := (Below.refl _ _).grown hgrow (Nat.le_refl _) (fun k h => by cases h)
  clear hgrow hi hz0 hz1 hz2 hb2 hnil
  go_wp2
  go_loopw [4] (fun i wr => ∃ k : Nat, k ≤ n ∧ i = .int .i64 k ∧ wr.ownsRow w.heap.size 5 1 (.slice (some ⟨w.heap.size, 0, none⟩) n n) n (part zs n k) ∧ Below w.heap.size w wr) (fun i _ => n - (intOf i).toNat)
  case atStart => exact ⟨0, Nat.zero_le _, rfl, by rw [part_zero]; exact hown, hbel⟩
  case round =>
    clear hown hbel
    obtain ⟨k, hk, rfl, hown, hbel⟩ := hrel
    by_cases hlt : k < n
    · obtain ⟨b, off, rfl, hcx⟩ := ints_at HC.out (by have := HZ.out; omega)
      have hck := cell_later hbel (hcx k (by have := HZ.out; omega))
      have hfz := hown.frozenAt k
      obtain ⟨v, hcv⟩ : ∃ v, wr.cell? ⟨w.heap.size, k, none⟩ = some v := by
        rw [hown.cellAt k (by omega)]
        have : k < (part zs n k).length := by rw [hown.1]; omega
        exact ⟨_, List.getElem?_eq_getElem this⟩
      obtain ⟨c, ec⟩ : ∃ c, c = zs.getD k 0 := ⟨_, rfl⟩
      rw [← ec] at hck
      have EC : Hid _ := ec
      clear ec hcx
      go_wp2
      go_roundw
      case rel =>
        obtain ⟨r1, r2⟩ := hown.stored k (.int .u8 c)
        refine ⟨k + 1, by omega, by go_num, ?_, hbel.setCell (Nat.le_refl _) _⟩
        rw [← part_step hlt HZ.out, ← EC.out]
        exact r1
      case measure => simp [intOf]; omega
    · have hkn : k = n := by omega
      subst hkn
      rw [part_full (Nat.le_refl _)] at hown
      go_wp2
      go_ret
      exact ⟨rfl, hown, hbel⟩
end Go.Proofs.Qxb6604695a
