import Derived.Test.Qxb6604201aColons
import Derived.WalkSpells
import Derived.OwnWalk
import Derived.Laws.OwnMore
import Derived.Lib.SliceRun
import Derived.WalkLawsBesides
namespace Go.Proofs.Qxb6604201a
open Go.RowKit

/-- A slice of strings as it lies in memory: n of them, from ao on. -/
def Strs (w : World) (ao : Option Addr) (n : Nat) (ss : List ByteArray) : Prop :=
  ss.length = n ∧ ∀ i, i < n → ∃ B o, ao = some ⟨B, o, none⟩ ∧ w.cell? ⟨B, o + i, none⟩ = some (.string (ss.getD i ByteArray.empty))
/-- Each of them is no longer than Go lets. -/
def Sized (ss : List ByteArray) : Prop := ∀ i, (ss.getD i ByteArray.empty).size ≤ 9223372036854775807

theorem sized_of {ss : List ByteArray} (h : ∀ s ∈ ss, s.size ≤ maxLen) : Sized ss := by
  intro i
  rw [List.getD_eq_getElem?_getD]
  by_cases hi : i < ss.length
  · rw [List.getElem?_eq_getElem hi]
    have := h _ (List.getElem_mem hi)
    unfold maxLen at this
    exact this
  · rw [List.getElem?_eq_none (by omega)]
    decide

/-- Some bool; some number of no great size: named, so that the walk leaves them as they stand. -/
def SomeBool (e : Ending) : Prop := ∃ b, e = .returned (.bool b)
def SomeInt (e : Ending) : Prop := ∃ t : Int, 0 ≤ t ∧ t ≤ 1048577 ∧ e = .returned (.int .i64 t)

/-! ### zzBytes_FnScopeGrantsMatchesModel: some bool -/
set_option maxHeartbeats 1000000 in
theorem bytes11_any (ao : Option Addr) (n cap : Nat) (ss : List ByteArray) (r : ByteArray) (w : World) (hn : n ≤ 9223372036854775807) (hr : r.size ≤ 9223372036854775807) (hs : Strs w ao n ss) (hz : Sized ss) :
    Calls Try.prog 11 #[.slice ao n cap, .string r] w fun e w' => SomeBool e ∧ w' = w := by
  by_cases hbig : 1048576 < n
  · go_enter Try.func11, Try.ntmps11
    go_wp2
    go_ret
    exact ⟨⟨_, rfl⟩, rfl⟩
  · have hn' : n ≤ 1048576 := by omega
    clear hbig hn
    go_enter Try.func11, Try.ntmps11
    go_wp2
    go_loop [5, 6] (fun t i => ∃ (k : Nat) (z : Int), k ≤ n ∧ i = .int .i64 k ∧ t = .int .i64 z ∧ 0 ≤ z ∧ z ≤ 1048576) (fun _ i => n - (intOf i).toNat)
    case atStart => exact ⟨0, n, Nat.zero_le _, rfl, rfl, by omega, by omega⟩
    case round =>
      obtain ⟨k, z, hk, rfl, rfl, hz0, hz1⟩ := hrel
      by_cases hlt : k < n
      · obtain ⟨B, o, rfl, hc⟩ := hs.2 k hlt
        have hsz := hz k
        obtain ⟨s, es⟩ : ∃ s, s = ss.getD k ByteArray.empty := ⟨_, rfl⟩
        rw [← es] at hc hsz
        clear es
        by_cases h1 : (1048576 : Int) < s.size
        · go_wp2
          go_ret
          exact ⟨⟨_, rfl⟩, rfl⟩
        · have h1' : (s.size : Int) ≤ 1048576 := by omega
          clear h1
          by_cases h2 : 1048576 < z + s.size
          · go_wp2
            go_ret
            exact ⟨⟨_, rfl⟩, rfl⟩
          · have h2' : z + s.size ≤ 1048576 := by omega
            clear h2
            go_wp2
            go_round
            case rel => exact ⟨k + 1, z + s.size, by omega, by go_num, rfl, by omega, by omega⟩
            case measure => simp [intOf]; omega
      · by_cases h1 : (1048576 : Int) < r.size
        · go_wp2
          go_ret
          exact ⟨⟨_, rfl⟩, rfl⟩
        · have h1' : (r.size : Int) ≤ 1048576 := by omega
          clear h1
          by_cases h2 : 1048576 < z + r.size
          · go_wp2
            go_ret
            exact ⟨⟨_, rfl⟩, rfl⟩
          · have h2' : z + r.size ≤ 1048576 := by omega
            clear h2
            go_wp2
            go_ret
            exact ⟨⟨_, rfl⟩, rfl⟩

/-! ### scopeB1HeldBytes: some number of no great size -/
set_option maxHeartbeats 1000000 in
theorem heldBytes_any (ao : Option Addr) (n cap : Nat) (ss : List ByteArray) (w : World) (hn : n ≤ 65536) (hs : Strs w ao n ss) (hz : Sized ss) :
    Calls Try.prog 12 #[.slice ao n cap] w fun e w' => SomeInt e ∧ w' = w := by
  go_enter Try.func12, Try.ntmps12
  go_wp2
  go_loop [3, 4] (fun t i => ∃ (k : Nat) (z : Int), k ≤ n ∧ i = .int .i64 k ∧ t = .int .i64 z ∧ 0 ≤ z ∧ z ≤ 1048576) (fun _ i => n - (intOf i).toNat)
  case atStart => exact ⟨0, 16 * n, Nat.zero_le _, rfl, rfl, by omega, by omega⟩
  case round =>
    obtain ⟨k, z, hk, rfl, rfl, hz0, hz1⟩ := hrel
    by_cases hlt : k < n
    · obtain ⟨B, o, rfl, hc⟩ := hs.2 k hlt
      have hsz := hz k
      obtain ⟨s, es⟩ : ∃ s, s = ss.getD k ByteArray.empty := ⟨_, rfl⟩
      rw [← es] at hc hsz
      clear es
      by_cases h1 : (1048576 : Int) < s.size
      · go_wp2
        go_ret
        exact ⟨⟨1048577, by omega, by omega, rfl⟩, rfl⟩
      · have h1' : (s.size : Int) ≤ 1048576 := by omega
        clear h1
        by_cases h2 : 1048576 < z + s.size
        · go_wp2
          go_ret
          exact ⟨⟨1048577, by omega, by omega, rfl⟩, rfl⟩
        · have h2' : z + s.size ≤ 1048576 := by omega
          clear h2
          go_wp2
          go_round
          case rel => exact ⟨k + 1, z + s.size, by omega, by go_num, rfl, by omega, by omega⟩
          case measure => simp [intOf]; omega
    · go_wp2
      go_ret
      exact ⟨⟨z, hz0, by omega, rfl⟩, rfl⟩

/-! ### scopeB1CopyHeld -/
theorem info9 : (Try.prog.info? 9).map (fun i => (i.zero, i.size, i.bytes)) = some (some (.string ByteArray.empty), 1, 16) := by kernel_rfl
def part (ss : List ByteArray) (n k : Nat) : List Value := (ss.take k).map Value.string ++ List.replicate (n - k) (.string ByteArray.empty)
theorem part_zero (ss : List ByteArray) (n : Nat) : part ss n 0 = List.replicate n (.string ByteArray.empty) := by simp [part]
theorem part_full {ss : List ByteArray} {n k : Nat} (h : n ≤ k) : part ss n k = (ss.take k).map Value.string := by
  rw [part, Nat.sub_eq_zero_of_le h]; simp
theorem part_step {ss : List ByteArray} {n k : Nat} (hk : k < n) (hz : n ≤ ss.length) : (part ss n k).set k (.string (ss.getD k ByteArray.empty)) = part ss n (k + 1) := by
  unfold part
  have hl : ((ss.take k).map Value.string).length = k := by rw [List.length_map, List.length_take]; omega
  rw [List.set_append, if_neg (by omega), hl, Nat.sub_self, show n - k = (n - (k + 1)) + 1 by omega, List.replicate_succ, List.set_cons_zero]
  rw [List.take_succ_eq_append_getElem (by omega), List.map_append, List.append_assoc]
  congr 1
  simp [List.getElem?_eq_getElem (show k < ss.length by omega)]
theorem made_is (n : Nat) : (madeCells #[Value.string ByteArray.empty] n).toList = List.replicate n (.string ByteArray.empty) := by
  apply List.ext_getElem?
  intro i
  simp [madeCells, List.getElem?_replicate]
  by_cases h : i < n <;> simp [h, Nat.mod_one]

set_option maxHeartbeats 400000 in
theorem copy_nil (w : World) :
    Calls Try.prog 13 #[.slice none 0 0] w fun e w' => e = .returned (.slice none 0 0) ∧ w' = w := by
  have hnil := fun w => Lib.run_eql_slice_nil (P := Try.prog) w 23 9 none 0 0 0 0 Try.underlying23
  go_enter Try.func13, Try.ntmps13
  go_wp2
  go_ret
  exact ⟨rfl, rfl⟩
set_option maxHeartbeats 1000000 in
theorem copy_row (x : Addr) (n cap : Nat) (ss : List ByteArray) (w : World) (hn : n ≤ 1048576) (hs : Strs w (some x) n ss) :
    Calls Try.prog 13 #[.slice (some x) n cap] w fun e w' => e = .returned (.slice (some ⟨w.heap.size, 0, none⟩) n n) ∧ Strs w' (some ⟨w.heap.size, 0, none⟩) n ss ∧ Below w.heap.size w w' := by
  obtain ⟨i0, hi, hz0, hz1, hz2⟩ := info_parts info9
  have hnil := fun w => Lib.run_eql_slice_nil (P := Try.prog) w 23 9 (some x) n cap 0 0 Try.underlying23
  have hb2 : i0.bytes * n ≤ 281474976710656 := by rw [hz2]; omega
  have hb3 : n ≤ maxLen := by unfold maxLen; omega
  have HL : Hid _ := hs.1
  go_enter Try.func13, Try.ntmps13
  go_wp2_with (at_make; refine wpList_make_full _ rfl _ _ 23 rfl w.heap.size 9 i0 (.string ByteArray.empty) 1 Try.underlying23 hi hz0 hz1 .i64 .i64 _ _ n rfl rfl rfl rfl hb2 hb3 (Nat.le_refl _) ?_)
  intro w1 hown hgrow
  rw [made_is] at hown
  have hbel : Below w.heap.size w w1 := (Below.refl _ _).grown hgrow (Nat.le_refl _) (fun k h => by cases h)
  clear hgrow hi hz0 hz1 hz2 hb2 hnil
  go_wp2
  go_loopw [4] (fun i wr => ∃ k : Nat, k ≤ n ∧ i = .int .i64 k ∧ wr.ownsRow w.heap.size 9 1 (.slice (some ⟨w.heap.size, 0, none⟩) n n) n (part ss n k) ∧ Below w.heap.size w wr) (fun i _ => n - (intOf i).toNat)
  case atStart => exact ⟨0, Nat.zero_le _, rfl, by rw [part_zero]; exact hown, hbel⟩
  case round =>
    clear hown hbel
    obtain ⟨k, hk, rfl, hown, hbel⟩ := hrel
    by_cases hlt : k < n
    · obtain ⟨b, off, ex, hcx⟩ := hs.2 k hlt
      obtain rfl := Option.some.inj ex
      have hck := cell_later hbel hcx
      have hfz := hown.frozenAt k
      obtain ⟨v, hcv⟩ : ∃ v, wr.cell? ⟨w.heap.size, k, none⟩ = some v := by
        rw [hown.cellAt k (by omega)]
        have : k < (part ss n k).length := by rw [hown.1]; omega
        exact ⟨_, List.getElem?_eq_getElem this⟩
      obtain ⟨c, ec⟩ : ∃ c, c = ss.getD k ByteArray.empty := ⟨_, rfl⟩
      rw [← ec] at hck
      have EC : Hid _ := ec
      clear ec hcx ex
      go_wp2
      go_roundw
      case rel =>
        obtain ⟨r1, r2⟩ := hown.stored k (.string c)
        refine ⟨k + 1, by omega, by go_num, ?_, hbel.setCell (Nat.le_refl _) _⟩
        rw [← part_step hlt (by have := HL.out; omega), ← EC.out]
        exact r1
      case measure => simp [intOf]; omega
    · have hkn : k = n := by omega
      subst hkn
      rw [part_full (Nat.le_refl _)] at hown
      have hst : Strs wr (some ⟨w.heap.size, 0, none⟩) k ss := by
        refine ⟨HL.out, fun i hik => ⟨_, _, rfl, ?_⟩⟩
        have hl : i < ss.length := by have := HL.out; omega
        rw [Nat.zero_add, hown.cellAt i (by omega), List.getElem?_map, List.getElem?_take, if_pos hik, List.getElem?_eq_getElem hl, List.getD_eq_getElem?_getD, List.getElem?_eq_getElem hl]
        rfl
      clear hs
      have HST : Hid _ := hst
      clear hst
      go_wp2
      go_ret
      exact ⟨rfl, HST.out, hbel⟩
end Go.Proofs.Qxb6604201a
