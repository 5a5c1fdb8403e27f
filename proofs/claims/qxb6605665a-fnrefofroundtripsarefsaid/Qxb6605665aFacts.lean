import Derived.Test.Qxb6605665aObj
import Derived.Test.Qxb6605665aBytes
namespace Go.Proofs.Qxb6605665a
open Go.RowKit Go.Maps Go.WideMaps

/-! ### What the two maps hold at the keys -/
theorem fill_isMap (ps : List Pr) : IsMap (fill ps) := by
  have gen : ∀ (ps : List Pr) (D : DataW Value), IsMap D → IsMap (ps.foldl (fun D p => D.put (.string p.1.data.toList) (.held (.iface 9 (.string p.2)))) D) := by
    intro ps
    induction ps with
    | nil => exact fun D h => h
    | cons p l ih => exact fun D h => ih _ (h.put _ _)
  exact gen ps _ isMap_empty
theorem at_put_same {D : DataW Value} (hD : IsMap D) (key : ByteArray) (x : Value) : At (D.put (.string key.data.toList) (.held x)) key x := by
  unfold At
  exact atKey_put_same (k := .string key.data.toList) hD trivial _ _
theorem at_put_other {D : DataW Value} {key k2 : ByteArray} {x y : Value} (hne : key.data.toList ≠ k2.data.toList) (h : At D key x) : At (D.put (.string k2.data.toList) (.held y)) key x := by
  unfold At at *
  rw [atKey_put_other (fun e => hne (Lit.string.inj e))]
  exact h
theorem at_last (ps : List Pr) (key x : ByteArray) : At (fill (ps ++ [(key, x)])) key (.iface 9 (.string x)) := by
  rw [fill_snoc]
  exact at_put_same (fill_isMap ps) key _
theorem at_more {ps : List Pr} {key x k2 y : ByteArray} (hne : key.data.toList ≠ k2.data.toList) (h : At (fill ps) key (.iface 9 (.string x))) : At (fill (ps ++ [(k2, y)])) key (.iface 9 (.string x)) := by
  rw [fill_snoc]
  exact at_put_other hne h
def topOf (ps : List Pr) (v k : ByteArray) : List Pr := ps ++ [(kApi, v)] ++ [(kKind, k)]
def metaOf (ps : List Pr) (s m u : ByteArray) : List Pr := ps ++ [(kSpace, s)] ++ [(kName, m)] ++ [(kUid, u)]
def objOf (ps : List Pr) (v k : ByteArray) (B2 : Nat) : DataW Value := (fill (topOf ps v k)).put (.string kMeta.data.toList) (.held (.iface 50 (.map (some B2))))
theorem obj_meta (ps : List Pr) (v k : ByteArray) (B2 : Nat) : At (objOf ps v k B2) kMeta (.iface 50 (.map (some B2))) := at_put_same (fill_isMap _) kMeta _
theorem obj_api (ps : List Pr) (v k : ByteArray) (B2 : Nat) : At (objOf ps v k B2) kApi (.iface 9 (.string v)) :=
  at_put_other (by decide) (at_more (by decide) (at_last ps kApi v))
theorem obj_kind (ps : List Pr) (v k : ByteArray) (B2 : Nat) : At (objOf ps v k B2) kKind (.iface 9 (.string k)) :=
  at_put_other (by decide) (at_last _ kKind k)
theorem meta_space (ps : List Pr) (s m u : ByteArray) : At (fill (metaOf ps s m u)) kSpace (.iface 9 (.string s)) :=
  at_more (by decide) (at_more (by decide) (at_last ps kSpace s))
theorem meta_name (ps : List Pr) (s m u : ByteArray) : At (fill (metaOf ps s m u)) kName (.iface 9 (.string m)) :=
  at_more (by decide) (at_last _ kName m)
theorem meta_uid (ps : List Pr) (s m u : ByteArray) : At (fill (metaOf ps s m u)) kUid (.iface 9 (.string u)) := at_last _ kUid u

/-! ### Sizes of pairs -/
theorem psized_snoc {ps : List Pr} (h : PSized ps) {a b : ByteArray} (ha : a.size ≤ 9223372036854775807) (hb : b.size ≤ 9223372036854775807) : PSized (ps ++ [(a, b)]) := by
  intro i
  rw [List.getD_eq_getElem?_getD]
  by_cases hi : i < ps.length
  · rw [List.getElem?_append_left hi, ← List.getD_eq_getElem?_getD]
    exact h i
  · rw [List.getElem?_append_right (by omega)]
    by_cases h0 : i - ps.length = 0
    · rw [h0]; exact ⟨ha, hb⟩
    · rw [List.getElem?_eq_none (by simp; omega)]; exact ⟨by decide, by decide⟩
theorem top_sized {ps : List Pr} (h : PSized ps) {v k : ByteArray} (hv : v.size ≤ 9223372036854775807) (hk : k.size ≤ 9223372036854775807) : PSized (topOf ps v k) :=
  psized_snoc (psized_snoc h (by decide) hv) (by decide) hk
theorem meta_sized {ps : List Pr} (h : PSized ps) {s m u : ByteArray} (hs : s.size ≤ 9223372036854775807) (hm : m.size ≤ 9223372036854775807) (hu : u.size ≤ 9223372036854775807) : PSized (metaOf ps s m u) :=
  psized_snoc (psized_snoc (psized_snoc h (by decide) hs) (by decide) hm) (by decide) hu
theorem flat_top (ps : List Pr) (v k : ByteArray) : flat (topOf ps v k) = flat ps ++ [.string kApi, .string v] ++ [.string kKind, .string k] := by
  unfold topOf
  rw [flat_append, flat_append]; rfl
theorem flat_meta (ps : List Pr) (s m u : ByteArray) : flat (metaOf ps s m u) = flat ps ++ [.string kSpace, .string s] ++ [.string kName, .string m] ++ [.string kUid, .string u] := by
  unfold metaOf
  rw [flat_append, flat_append, flat_append]; rfl

/-! ### Worlds -/
theorem ownsMap_later {w w1 : World} {R : Value → Option (DataW Value × List MemPlace)} {B n : Nat} {D : DataW Value} (hb : Below w.heap.size w w1) (h : w.ownsMap Try.prog 9 R B n D) : w1.ownsMap Try.prog 9 R B n D := by
  have hlt := h.lt
  obtain ⟨es, clock, e, F, hs, hD⟩ := h
  exact ⟨es, clock, by rw [hb.block B hlt]; exact e, F, hs, hD⟩
theorem cell_far {w w' : World} {row : Nat} (hg : w.grownBy w' (some row)) {a : Addr} {v : Value} (h : w.cell? a = some v) (hne : a.block ≠ row) : w'.cell? a = some v := by
  have hlt := World.block_lt_of_cell? _ _ h
  rw [World.cell?_of_block (hg.block a.block hlt (fun e => hne (Option.some.inj e)))]
  exact h

/-! ### The contracts, whatever the input -/
/-- A copy, told by what it is good for. -/
def Copied (w w' : World) (n : Nat) (ps : List Pr) (a : Option Addr) (c : Nat) : Prop := Pairs w' a n ps ∧ (a = none → n = 0 ∧ c = 0) ∧ Below w.heap.size w w'
theorem clone_any (a : Option Addr) (n c : Nat) (ps : List Pr) (w : World) (hn : n ≤ 1048576) (hp : Pairs w a n ps) (h0 : a = none → n = 0 ∧ c = 0) :
    Calls Try.prog 12 #[.slice a n c] w fun e w' => ∃ a' c', e = .returned (.slice a' n c') ∧ Copied w w' n ps a' c' := by
  match a, h0, hp with
  | none, h0, hp =>
    obtain ⟨rfl, rfl⟩ := h0 rfl
    exact (clone_nil w).mono fun e w' ⟨he, hw⟩ => ⟨none, 0, he, by subst hw; exact ⟨hp, fun _ => ⟨rfl, rfl⟩, Below.refl _ _⟩⟩
  | some x, _, hp => exact (clone_row x n c ps w hn hp).mono fun e w' ⟨he, h1, h2⟩ => ⟨_, _, he, h1, (fun h => by cases h), h2⟩
theorem bytes18_any (a0 a1 : Option Addr) (n0 c0 n1 c1 : Nat) (v k s m u : ByteArray) (ps qs : List Pr) (w : World) (s0 : v.size ≤ 9223372036854775807) (s1 : k.size ≤ 9223372036854775807) (s2 : s.size ≤ 9223372036854775807) (s3 : m.size ≤ 9223372036854775807) (s4 : u.size ≤ 9223372036854775807) (hn0 : n0 ≤ 9223372036854775807) (hn1 : n1 ≤ 9223372036854775807)
    (hp : Pairs w a0 n0 ps) (hq : Pairs w a1 n1 qs) (hzp : PSized ps) (hzq : PSized qs) :
    Calls Try.prog 18 #[.string v, .string k, .string s, .string m, .string u, .slice a0 n0 c0, .slice a1 n1 c1] w fun e w' => SomeBool e ∧ w' = w := by
  by_cases hb : 1048576 < v.size + k.size + s.size + m.size + u.size
  · exact bytes18_texts a0 a1 n0 c0 n1 c1 v k s m u w s0 s1 s2 s3 s4 hb
  · by_cases hb2 : 1048576 < v.size + k.size + s.size + m.size + u.size + n0
    · exact bytes18_first a0 a1 n0 c0 n1 c1 v k s m u w (by omega) hn0 hb2
    · exact bytes18_loops a0 a1 n0 c0 n1 c1 v k s m u ps qs w (by omega) (by omega) hn1 hp hq hzp hzq
/-- Some number of no great size, which is 1<<21 where p holds. -/
def SomeInt2 (p : Prop) (e : Ending) : Prop := ∃ t : Int, 0 ≤ t ∧ t ≤ 2097152 ∧ (p → t = 2097152) ∧ e = .returned (.int .i64 t)
theorem pairBytes_all (ao : Option Addr) (n cap : Nat) (ps : List Pr) (w : World) (hp : Pairs w ao n ps) (hz : PSized ps) :
    Calls Try.prog 10 #[.slice ao n cap] w fun e w' => SomeInt2 (1048576 < n) e ∧ w' = w := by
  by_cases hb : 1048576 < n
  · exact (pairBytes_big ao n cap w hb).mono fun e w' ⟨he, hw⟩ => ⟨⟨2097152, by omega, by omega, fun _ => rfl, he⟩, hw⟩
  · exact (pairBytes_any ao n cap ps w (by omega) hp hz).mono fun e w' ⟨⟨t, h0, h1, he⟩, hw⟩ => ⟨⟨t, h0, h1, fun h => absurd h hb, he⟩, hw⟩
set_option maxHeartbeats 400000 in
theorem text_big (s : ByteArray) (w : World) (h : 1048576 < s.size) :
    Calls Try.prog 19 #[.string s] w fun e w' => e = .returned (.int .i64 2097152) ∧ w' = w := by
  go_enter Try.func19, Try.ntmps19
  go_wp2
  go_ret
  exact ⟨rfl, rfl⟩
theorem text_all (s : ByteArray) (w : World) : Calls Try.prog 19 #[.string s] w fun e w' => SomeInt2 (1048576 < s.size) e ∧ w' = w := by
  by_cases hb : 1048576 < s.size
  · exact (text_big s w hb).mono fun e w' ⟨he, hw⟩ => ⟨⟨2097152, by omega, by omega, fun _ => rfl, he⟩, hw⟩
  · exact (text_small s w (by omega)).mono fun e w' ⟨he, hw⟩ => ⟨⟨s.size, by omega, by omega, fun h => absurd h hb, he⟩, hw⟩
end Go.Proofs.Qxb6605665a
