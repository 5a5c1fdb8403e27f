import Derived.Test.Qxb6605665aPairs
import Derived.Maps.OwnSet
import Derived.Maps.OwnOps
namespace Go.Proofs.Qxb6605665a
open Go.RowKit Go.Maps Go.WideMaps
/-- An element as it is: the ghost reading of a map's elements. -/
def asIs (v : Value) : Option (DataW Value × List MemPlace) := some (.held v, [])
theorem law9 : Keyed Try.prog 9 := string_keyed Try.underlying9
theorem zero20 (w : World) : (zeroValue 20).run Try.prog w = .ok .nilIface w := by kernel_rfl
theorem lookup_is {w : World} {B n : Nat} {D : DataW Value} (h : w.ownsMap Try.prog 9 asIs B n D) {s : ByteArray} (hs : s.size ≤ maxLen) {x : Value} (hx : D.atKey (.string s.data.toList) (.held .nilIface) = .held x) :
    (Instr.lookup 50 (.map (some B)) (.string s) false).run Try.prog w = .ok x w := by
  obtain ⟨v, ps, hrun, hv⟩ := h.lookup law9 Try.underlying50 (zero20 w) (zd := .held .nilIface) (zp := []) rfl (keyOf_string_mk Try.underlying9 hs)
  rw [hx] at hv
  simp [asIs] at hv
  rw [hrun, hv.1]
theorem assert9 (s : ByteArray) (w : World) : (Instr.typeAssert (.iface 9 (.string s)) 20 9 true).run Try.prog w = .ok (.tuple #[.string s, .bool true]) w := by kernel_rfl
theorem assert50 (B : Nat) (w : World) : (Instr.typeAssert (.iface 50 (.map (some B))) 20 50 true).run Try.prog w = .ok (.tuple #[.map (some B), .bool true]) w := by kernel_rfl
set_option maxHeartbeats 400000 in
theorem text_is (B n : Nat) (D : DataW Value) (key s : ByteArray) (w : World) (h : w.ownsMap Try.prog 9 asIs B n D) (hk : key.size ≤ maxLen) (hx : D.atKey (.string key.data.toList) (.held .nilIface) = .held (.iface 9 (.string s))) :
    Calls Try.prog 36 #[.map (some B), .string key] w fun e w' => e = .returned (.string s) ∧ w' = w := by
  have hl := lookup_is h hk hx
  have ha := assert9 s
  have HX : Hid _ := hx
  clear hx
  go_enter Try.func36, Try.ntmps36
  go_wp2
  go_ret
  exact ⟨rfl, rfl⟩

def kMeta : ByteArray := ⟨#[109, 101, 116, 97, 100, 97, 116, 97]⟩
def kApi : ByteArray := ⟨#[97, 112, 105, 86, 101, 114, 115, 105, 111, 110]⟩
def kKind : ByteArray := ⟨#[107, 105, 110, 100]⟩
def kSpace : ByteArray := ⟨#[110, 97, 109, 101, 115, 112, 97, 99, 101]⟩
def kName : ByteArray := ⟨#[110, 97, 109, 101]⟩
def kUid : ByteArray := ⟨#[117, 105, 100]⟩
/-- What a map holds at a key. -/
def At (D : DataW Value) (key : ByteArray) (x : Value) : Prop := D.atKey (.string key.data.toList) (.held .nilIface) = .held x

set_option maxHeartbeats 1000000 in
theorem refOf_is (B n : Nat) (D : DataW Value) (B2 n2 : Nat) (D2 : DataW Value) (v k s m u : ByteArray) (w : World) (h : w.ownsMap Try.prog 9 asIs B n D) (h2 : w.ownsMap Try.prog 9 asIs B2 n2 D2)
    (hm : At D kMeta (.iface 50 (.map (some B2)))) (h3 : At D kApi (.iface 9 (.string v))) (h4 : At D kKind (.iface 9 (.string k))) (h5 : At D2 kSpace (.iface 9 (.string s))) (h6 : At D2 kName (.iface 9 (.string m))) (h7 : At D2 kUid (.iface 9 (.string u))) :
    Calls Try.prog 32 #[.map (some B)] w fun e w' => e = .returned (.agg #[.string v, .string k, .string s, .string m, .string u]) ∧ Below w.heap.size w w' := by
  have hl := fun o => lookup_is (h.alloc o) (s := kMeta) (by decide) hm
  have ha := assert50 B2
  have C3 := fun o => text_is B n D kApi v (w.alloc o) (h.alloc o) (by decide) h3
  have C4 := fun o => text_is B n D kKind k (w.alloc o) (h.alloc o) (by decide) h4
  have C5 := fun o => text_is B2 n2 D2 kSpace s (w.alloc o) (h2.alloc o) (by decide) h5
  have C6 := fun o => text_is B2 n2 D2 kName m (w.alloc o) (h2.alloc o) (by decide) h6
  have C7 := fun o => text_is B2 n2 D2 kUid u (w.alloc o) (h2.alloc o) (by decide) h7
  unfold kMeta at hl
  unfold kApi at C3
  unfold kKind at C4
  unfold kSpace at C5
  unfold kName at C6
  unfold kUid at C7
  clear h h2 hm h3 h4 h5 h6 h7
  go_enter Try.func32, Try.ntmps32
  go_wp2_with fail
  refine (C3 _).mono ?_
  rintro e w9 ⟨rfl, hw⟩
  subst w9
  go_wp2_with fail
  refine (C4 _).mono ?_
  rintro e w9 ⟨rfl, hw⟩
  subst w9
  go_wp2_with fail
  refine (C5 _).mono ?_
  rintro e w9 ⟨rfl, hw⟩
  subst w9
  go_wp2_with fail
  refine (C6 _).mono ?_
  rintro e w9 ⟨rfl, hw⟩
  subst w9
  go_wp2_with fail
  refine (C7 _).mono ?_
  rintro e w9 ⟨rfl, hw⟩
  subst w9
  go_wp2
  exact bodyPost_ret (v := .agg #[.string v, .string k, .string s, .string m, .string u]) (by simp [results, Try.results32, go_sem]) rfl ⟨rfl, (Below.refl _ _).alloc (Nat.le_refl _) _⟩

set_option maxHeartbeats 1000000 in
theorem zzRefOf_is (b : Nat) (B n : Nat) (D : DataW Value) (B2 n2 : Nat) (D2 : DataW Value) (v k s m u : ByteArray) (w : World) (hc : w.cell? ⟨b, 0, none⟩ = some (.map (some B))) (h : w.ownsMap Try.prog 9 asIs B n D) (h2 : w.ownsMap Try.prog 9 asIs B2 n2 D2)
    (hm : At D kMeta (.iface 50 (.map (some B2)))) (h3 : At D kApi (.iface 9 (.string v))) (h4 : At D kKind (.iface 9 (.string k))) (h5 : At D2 kSpace (.iface 9 (.string s))) (h6 : At D2 kName (.iface 9 (.string m))) (h7 : At D2 kUid (.iface 9 (.string u))) :
    Calls Try.prog 16 #[.pointer (some ⟨b, 0, none⟩)] w fun e w' => e = .returned (.agg #[.string v, .string k, .string s, .string m, .string u]) ∧ Below w.heap.size w w' := by
  have C := fun o => refOf_is B n D B2 n2 D2 v k s m u (w.alloc o) (h.alloc o) (h2.alloc o) hm h3 h4 h5 h6 h7
  have hlt := World.block_lt_of_cell? _ _ hc
  clear h h2 hm h3 h4 h5 h6 h7
  go_enter Try.func16, Try.ntmps16
  go_wp2_with fail
  refine (C _).mono ?_
  rintro e w1 ⟨rfl, hb⟩
  have hz : w.heap.size < w1.heap.size := by have := hb.size; simp at this; omega
  have hf := fun o => hb.frozen (p := ⟨w.heap.size, o, none⟩) (by simp)
  have B0 : Box w1 w.heap.size ⟨#[]⟩ ⟨#[]⟩ ⟨#[]⟩ ⟨#[]⟩ ⟨#[]⟩ := Box.later hb (Box.new _ _ _ _ _ _)
  obtain ⟨x0, x1, x2, x3, x4⟩ := B0
  have E : Below w.heap.size w w1 := below_step ((Below.refl _ _).alloc (Nat.le_refl _) _) hb
  clear hb C
  go_wp2
  exact bodyPost_ret (v := .agg #[.string v, .string k, .string s, .string m, .string u]) (by simp [results, Try.results16, go_sem, x0, x1, x2, x3, x4]) rfl ⟨rfl, ((((E.setCell (Nat.le_refl _) _).setCell (Nat.le_refl _) _).setCell (Nat.le_refl _) _).setCell (Nat.le_refl _) _).setCell (Nat.le_refl _) _⟩

/-! ### ZZNewObj -/
/-- What a map holds that is filled from pairs, one behind the other. -/
def fill (ps : List Pr) : DataW Value := ps.foldl (fun D p => D.put (.string p.1.data.toList) (.held (.iface 9 (.string p.2)))) (.map [])
theorem fill_snoc (ps : List Pr) (p : Pr) : fill (ps ++ [p]) = (fill ps).put (.string p.1.data.toList) (.held (.iface 9 (.string p.2))) := by simp [fill, List.foldl_append]
theorem fill_step {ps : List Pr} {k : Nat} (h : k < ps.length) : fill (ps.take (k + 1)) = (fill (ps.take k)).put (.string (ps.getD k noPair).1.data.toList) (.held (.iface 9 (.string (ps.getD k noPair).2))) := by
  rw [List.take_succ_eq_append_getElem h, fill_snoc, List.getD_eq_getElem?_getD, List.getElem?_eq_getElem h]
  rfl
set_option maxHeartbeats 1000000 in
theorem newObj_is (ao : Option Addr) (n c : Nat) (ps : List Pr) (w : World) (hn : n ≤ 4194304) (hp : Pairs w ao n ps) (hz : PSized ps) :
    Calls Try.prog 14 #[.slice ao n c, .slice none 0 0] w fun e w' => ∃ b, e = .returned (.pointer (some ⟨b, 0, none⟩)) ∧ w'.cell? ⟨b, 0, none⟩ = some (.map (some w.heap.size)) ∧ w.heap.size < b ∧ w'.ownsMap Try.prog 9 asIs w.heap.size n (fill ps) ∧ Below w.heap.size w w' := by
  have hmm := @run_makeMap Try.prog
  have HL : Hid _ := hp.1
  go_enter Try.func14, Try.ntmps14
  go_wp2
  go_loopw [7, 13] (fun _ i wr => ∃ k : Nat, k ≤ n ∧ i = .int .i64 k ∧ wr.ownsMap Try.prog 9 asIs w.heap.size k (fill (ps.take k)) ∧ w.heap.size < wr.heap.size ∧ Below w.heap.size w wr) (fun _ i _ => n - (intOf i).toNat)
  case atStart => exact ⟨0, Nat.zero_le _, rfl, World.ownsMap_made _ _ _ _, by simp, (Below.refl _ _).alloc (Nat.le_refl _) _⟩
  case round =>
    obtain ⟨k, hk, rfl, hown, hbs, hbel⟩ := hrel
    by_cases hlt : k < n
    · obtain ⟨B, o, rfl, hc0, hc1⟩ := hp.2 k hlt
      have hc0 := cell_later hbel hc0
      have hc1 := cell_later hbel hc1
      obtain ⟨x, ex⟩ : ∃ x, x = (ps.getD k noPair).1 := ⟨_, rfl⟩
      obtain ⟨y, ey⟩ : ∃ y, y = (ps.getD k noPair).2 := ⟨_, rfl⟩
      have hx := (hz k).1
      rw [← ex] at hc0 hx
      rw [← ey] at hc1
      have hst : Hid (fill (ps.take (k + 1)) = (fill (ps.take k)).put (.string x.data.toList) (.held (.iface 9 (.string y)))) := by
        show _ = _
        rw [ex, ey]
        exact fill_step (by have := HL.out; omega)
      have hkey : Hid (keyOf Try.prog 9 (.string x) = some (.string x.data.toList)) := keyOf_string_mk Try.underlying9 (by unfold maxLen; omega)
      clear ex ey hp hz
      go_wp2_with (first | (at_mapUpdate; refine wpList_mapUpdate_own _ rfl _ _ _ 50 rfl 9 20 law9 Try.underlying50 asIs w.heap.size k _ rfl (hown.alloc _) (by unfold maxLen; omega) _ _ _ rfl rfl hkey.out (.held (.iface 9 (.string y))) [] rfl ?_))
      intro w1 hown1 hg1
      have hb1 : Below w.heap.size w w1 := (hbel.alloc hbel.size _).grown hg1 (by simp; omega) (fun j hj => by cases hj; exact Nat.le_refl _)
      have hs1 : w.heap.size < w1.heap.size := by have := hg1.size; simp at this; omega
      have R : Hid (w1.ownsMap Try.prog 9 asIs w.heap.size (k + 1) (fill (ps.take (k + 1)))) := by rw [hst.out]; exact hown1
      clear hown1 hg1 hown hbs hbel hc0 hc1
      go_wp2
      go_roundw
      case rel => exact ⟨k + 1, by omega, by go_num, R.out, hs1, hb1⟩
      case measure => simp [intOf]; omega
    · have hkn : k = n := by omega
      subst hkn
      have R : Hid (wr.ownsMap Try.prog 9 asIs w.heap.size k (fill ps)) := by rw [List.take_of_length_le (by have := HL.out; omega)] at hown; exact hown
      clear hown hp hz
      go_wp2
      refine wp_loop_rounds 1 ?_
      rw [rounds_succ]
      go_wp2
      go_ret
      exact ⟨_, rfl, by simp, hbs, R.out.alloc _, hbel.alloc hbel.size _⟩
/-! ### ZZSetObj -/
set_option maxHeartbeats 1000000 in
theorem setObj_is (b b2 B B2 n : Nat) (D : DataW Value) (key : ByteArray) (w : World) (hk : key.size ≤ maxLen) (hn : n ≤ 8388608) (h1 : w.cell? ⟨b, 0, none⟩ = some (.map (some B))) (h2 : w.cell? ⟨b2, 0, none⟩ = some (.map (some B2))) (h : w.ownsMap Try.prog 9 asIs B n D) :
    Calls Try.prog 15 #[.pointer (some ⟨b, 0, none⟩), .string key, .pointer (some ⟨b2, 0, none⟩)] w fun e w' => e = .returned (.tuple #[]) ∧ w'.ownsMap Try.prog 9 asIs B (n + 1) (D.put (.string key.data.toList) (.held (.iface 50 (.map (some B2))))) ∧ w.grownBy w' (some B) := by
  obtain ⟨w1, hrun, hown, hg⟩ := World.ownsMap.update (t := 50) h.drew law9 Try.underlying50 (by unfold maxLen; omega) (keyOf_string_mk Try.underlying9 hk) (val := .iface 50 (.map (some B2))) (d := .held (.iface 50 (.map (some B2)))) (ps := []) rfl
  have hg' : Hid (w.grownBy w1 (some B)) := ⟨hg.os, hg.tape, hg.output, hg.size, hg.block⟩
  have HO : Hid _ := hown
  clear hg hown h
  go_enter Try.func15, Try.ntmps15
  go_wp2
  go_region
  all_goals (go_wp2; go_end0; exact ⟨rfl, HO.out, hg'.out⟩)
end Go.Proofs.Qxb6605665a
