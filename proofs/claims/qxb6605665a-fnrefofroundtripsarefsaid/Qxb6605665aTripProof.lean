import Derived.Test.Qxb6605665aRows
import Derived.Test.Qxb6605665aTrip
import Derived.WalkKit
import Derived.ProofKit
import Derived.OpenShut
import Derived.ShutString
import Derived.ChangeOld
import Derived.Below
namespace Go.Proofs.Qxb6605665a.fnRefOfRoundTripsARef
open Go.ChangeShapes Go.WideShapes Go.ChangeAt Go.RowKit
open Go.ChangeMaps (open_string shut_string)
set_option linter.unusedVariables false

theorem own : ownKnob Try.prog.godebug = none := by kernel_rfl
theorem laidOut : laidOutB Try.prog = true := by kernel_rfl

/-! ### A slice of pairs that came in -/
theorem cells38 : Try.prog.cellsOf 38 = 2 := by kernel_rfl
theorem cells9 : Try.prog.cellsOf 9 = 1 := by kernel_rfl
/-- An element of a slice of pairs, read. -/
theorem open_pair {H : Type} {enc : TypeId × Value → H} {w : World} {base : Nat} {spare : Nat → Bool} {held : Bool} {n : Nat} {a : Addr} {y : DataW H × List MemPlace}
    (h : (w.cells? base a 2).bind (DataW.trod enc Try.prog w base spare held n 38) = some y) :
    ∃ p : Pr, w.cell? (a.add 0) = some (.string p.1) ∧ w.cell? (a.add 1) = some (.string p.2) ∧ p.1.size ≤ maxLen ∧ p.2.size ≤ maxLen := by
  obtain ⟨cs, hcs, hy⟩ := Option.bind_eq_some_iff.1 h
  obtain ⟨xs, m, _, _, hlen, hxl, hel⟩ := DataW.trod_array Try.underlying38 hy
  rw [cells38] at hlen
  rw [cells9] at hel
  obtain ⟨_, hl2, hget⟩ := World.cells?_some hcs
  match cs, hlen with
  | [c0, c1], _ =>
    have e0 := hel 0 (by omega)
    have e1 := hel 1 (by omega)
    rw [List.getElem?_eq_getElem (by omega)] at e0 e1
    obtain ⟨s0, q0, _, z0⟩ := DataW.trod_string Try.underlying9 e0
    obtain ⟨s1, q1, _, z1⟩ := DataW.trod_string Try.underlying9 e1
    simp at q0 q1
    subst q0 q1
    exact ⟨(s0, s1), hget 0 (by omega), hget 1 (by omega), z0, z1⟩

theorem list_of {Q : Nat → Pr → Prop} : ∀ n : Nat, (∀ i, i < n → ∃ p, Q i p) → ∃ l : List Pr, l.length = n ∧ ∀ i, i < n → Q i (l.getD i noPair)
  | 0, _ => ⟨[], rfl, fun i h => absurd h (Nat.not_lt_zero _)⟩
  | n + 1, h => by
    obtain ⟨l, hl, hq⟩ := list_of n (fun i hi => h i (by omega))
    obtain ⟨p, hp⟩ := h n (by omega)
    refine ⟨l ++ [p], by simp [hl], fun i hi => ?_⟩
    rw [List.getD_eq_getElem?_getD]
    by_cases e : i < n
    · rw [List.getElem?_append_left (by omega), ← List.getD_eq_getElem?_getD]
      exact hq i e
    · have : i = n := by omega
      subst this
      rw [List.getElem?_append_right (by omega), hl, Nat.sub_self]
      exact hp

/-- A slice of pairs that came in, opened. -/
theorem open_pairs {H : Type} {enc : TypeId × Value → H} {w : World} {base : Nat} {spare : Nat → Bool} {held : Bool} {fuel : Nat} {a : Option Addr} {n c : Nat} {y : DataW H × List MemPlace}
    (h : DataW.trod enc Try.prog w base spare held fuel 22 [.slice a n c] = some y) :
    ∃ ps, n ≤ 9223372036854775807 ∧ Pairs w a n ps ∧ PSized ps ∧ (a = none → n = 0 ∧ c = 0) := by
  rcases DataW.trod_slice Try.underlying22 h with ⟨hcs, _⟩ | ⟨x, len, cap, elems, rest, m, _, hcs, _, _, hl, hc, hel, hget, _, _⟩
  · simp at hcs
    obtain ⟨rfl, rfl, rfl⟩ := hcs
    refine ⟨[], by omega, ⟨rfl, fun i h => absurd h (Nat.not_lt_zero _)⟩, fun i => ?_, fun _ => ⟨rfl, rfl⟩⟩
    exact ⟨(by decide : noPair.1.size ≤ 9223372036854775807), (by decide : noPair.2.size ≤ 9223372036854775807)⟩
  · simp at hcs
    obtain ⟨rfl, rfl, rfl⟩ := hcs
    unfold maxLen at hc
    have each : ∀ i, i < n → ∃ p : Pr, w.cell? ((x.add (i * 2)).add 0) = some (.string p.1) ∧ w.cell? ((x.add (i * 2)).add 1) = some (.string p.2) ∧ p.1.size ≤ maxLen ∧ p.2.size ≤ maxLen := by
      intro i hi
      have := hget i hi
      rw [cells38, List.getElem?_eq_getElem (by omega)] at this
      exact open_pair this
    obtain ⟨ps, hlen, hq⟩ := list_of n each
    refine ⟨ps, by omega, ⟨hlen, fun i hi => ?_⟩, fun i => ?_, fun h => by cases h⟩
    · obtain ⟨b, off, spot⟩ := x
      have hspot : spot = none := by
        have := World.cell?_spot (hq 0 (by omega)).1
        simpa [Addr.add] using this
      subst hspot
      obtain ⟨q0, q1, _, _⟩ := hq i hi
      rw [Go.WideShapes.add_plain, Go.WideShapes.add_plain] at q0 q1
      exact ⟨b, off, rfl, q0, q1⟩
    · by_cases hi : i < n
      · obtain ⟨_, _, z0, z1⟩ := hq i hi
        unfold maxLen at z0 z1
        exact ⟨by omega, by omega⟩
      · rw [List.getD_eq_getElem?_getD, List.getElem?_eq_none (by omega)]
        exact ⟨by decide, by decide⟩

/-! ### The walk, whatever the input -/
theorem walk (v k s m u : ByteArray) (a0 : Option Addr) (n0 c0 : Nat) (a1 : Option Addr) (n1 c1 : Nat) (ps qs : List Pr) (w : World) (s0 : v.size ≤ maxLen) (s1 : k.size ≤ maxLen) (s2 : s.size ≤ maxLen) (s3 : m.size ≤ maxLen) (s4 : u.size ≤ maxLen) (hn0 : n0 ≤ 9223372036854775807) (hn1 : n1 ≤ 9223372036854775807)
    (hp : Pairs w a0 n0 ps) (hq : Pairs w a1 n1 qs) (hzp : PSized ps) (hzq : PSized qs) (hz0 : a0 = none → n0 = 0 ∧ c0 = 0) (hz1 : a1 = none → n1 = 0 ∧ c1 = 0) :
    Calls Try.prog 4 #[.string v, .string k, .string s, .string m, .string u, .slice a0 n0 c0, .slice a1 n1 c1] w fun e w' => e = .returned (.bool true) ∧ Below w.heap.size w w' := by
  unfold maxLen at s0 s1 s2 s3 s4
  by_cases hbig : 1048576 < v.size ∨ 1048576 < k.size ∨ 1048576 < s.size ∨ 1048576 < m.size ∨ 1048576 < u.size ∨ 1048576 < n0 ∨ 1048576 < n1
  · exact walk_far a0 a1 n0 c0 n1 c1 v k s m u ps qs w (by omega) (by omega) (by omega) (by omega) (by omega) hn0 hn1 hp hq hzp hzq hbig
  · exact walk_main a0 a1 n0 c0 n1 c1 v k s m u ps qs w (by omega) (by omega) (by omega) (by omega) (by omega) (by omega) (by omega) hp hq hzp hzq hz0 hz1

/-! ### The row's step -/
set_option maxRecDepth 100000 in
theorem lifted (os : Os) (started : os.Started) (H : Type) (enc : TypeId × Value → H) :
    ReturnsInHanded {} Try.checked os 4 .any (Rows.fnRefOfRoundTripsARefSpec.pre6 enc Try.prog Try.f4 Rows.fnRefOfRoundTripsARefRow.domain false) (Rows.fnRefOfRoundTripsARefSpec.post enc Try.prog Try.f4 false true false false) := by
  refine returnsInHanded_of_change (C := Try.checked) own started (by kernel_rfl) Try.func4
    (ChangeSpec.witness6 (enc := enc) (C := Try.checked) false ⟨#[], #[.string ByteArray.empty, .string ByteArray.empty, .string ByteArray.empty, .string ByteArray.empty, .string ByteArray.empty, .slice none 0 0, .slice none 0 0], []⟩ 8 (by kernel_rfl) (by kernel_rfl) (by kernel_rfl) (by kernel_rfl)) ?_
  intro W base args ds gs before hval0 hW hcnd _
  have hval : ∀ (j : Nat) t v, Try.f4.params[j]? = some t → args[j]? = some v → Value.okWide Try.prog W .any base t v := hval0
  have hW' := hW
  obtain ⟨p, q, hA0, hV, rfl, hfz, hnd⟩ := hW
  have hA : DataW.TrodAll enc Try.prog W 0 (fun _ => true) true Try.f4.params.toList args.toList ds p := hA0
  rw [Try.params4] at hA hval
  obtain ⟨v0, vs0, d0, ds0, p0, q0, hargs, rfl, rfl, h0, r0⟩ := trodAll_cons hA
  obtain ⟨v1, vs1, d1, ds1, p1, q1, rfl, rfl, rfl, h1, r1⟩ := trodAll_cons r0
  obtain ⟨v2, vs2, d2, ds2, p2, q2, rfl, rfl, rfl, h2, r2⟩ := trodAll_cons r1
  obtain ⟨v3, vs3, d3, ds3, p3, q3, rfl, rfl, rfl, h3, r3⟩ := trodAll_cons r2
  obtain ⟨v4, vs4, d4, ds4, p4, q4, rfl, rfl, rfl, h4, r4⟩ := trodAll_cons r3
  obtain ⟨v5, vs5, d5, ds5, p5, q5, rfl, rfl, rfl, h5, r5⟩ := trodAll_cons r4
  obtain ⟨v6, vs6, d6, ds6, p6, q6, rfl, rfl, rfl, h6, r6⟩ := trodAll_cons r5
  obtain ⟨rfl, rfl, rfl⟩ := trodAll_nil r6
  obtain rfl : args = #[v0, v1, v2, v3, v4, v5, v6] := by cases args; simp_all
  obtain ⟨rfl, rfl⟩ := trodVars_none hV
  obtain ⟨a0, rfl, rfl, rfl, w0⟩ := open_string Try.underlying9 (hval 0 9 v0 rfl rfl) h0
  obtain ⟨a1, rfl, rfl, rfl, w1⟩ := open_string Try.underlying9 (hval 1 9 v1 rfl rfl) h1
  obtain ⟨a2, rfl, rfl, rfl, w2⟩ := open_string Try.underlying9 (hval 2 9 v2 rfl rfl) h2
  obtain ⟨a3, rfl, rfl, rfl, w3⟩ := open_string Try.underlying9 (hval 3 9 v3 rfl rfl) h3
  obtain ⟨a4, rfl, rfl, rfl, w4⟩ := open_string Try.underlying9 (hval 4 9 v4 rfl rfl) h4
  obtain ⟨x5, n5, c5, rfl⟩ := okWide_slice Try.underlying22 (hval 5 22 v5 rfl rfl)
  obtain ⟨x6, n6, c6, rfl⟩ := okWide_slice Try.underlying22 (hval 6 22 v6 rfl rfl)
  have k5 := h5
  have k6 := h6
  have lt5 : ∀ x ∈ p5, x.block < W.heap.size := by obtain ⟨m, hm⟩ := k5; exact DataW.trod_lt m _ _ _ hm
  have lt6 : ∀ x ∈ p6, x.block < W.heap.size := by obtain ⟨m, hm⟩ := k6; exact DataW.trod_lt m _ _ _ hm
  obtain ⟨ps, hn0, hp, hzp, hz0⟩ : ∃ ps, n5 ≤ 9223372036854775807 ∧ Pairs W x5 n5 ps ∧ PSized ps ∧ (x5 = none → n5 = 0 ∧ c5 = 0) := by
    obtain ⟨fuel, hf⟩ := h5
    exact open_pairs hf
  obtain ⟨qs, hn1, hq, hzq, hz1⟩ : ∃ ps, n6 ≤ 9223372036854775807 ∧ Pairs W x6 n6 ps ∧ PSized ps ∧ (x6 = none → n6 = 0 ∧ c6 = 0) := by
    obtain ⟨fuel, hf⟩ := h6
    exact open_pairs hf
  clear hA0 hval0
  refine (walk a0 a1 a2 a3 a4 x5 n5 c5 x6 n6 c6 ps qs W w0 w1 w2 w3 w4 hn0 hn1 hp hq hzp hzq hz0 hz1).mono fun e W' ⟨he, bel⟩ => ?_
  subst he
  exact ⟨_, rfl, _, _, _, [], _, [], hW', trodAll_mk1 (shut_bool Try.underlying4 _), (trodAll_cons_mk (shut_string Try.underlying9 w0) (trodAll_cons_mk (shut_string Try.underlying9 w1) (trodAll_cons_mk (shut_string Try.underlying9 w2) (trodAll_cons_mk (shut_string Try.underlying9 w3) (trodAll_cons_mk (shut_string Try.underlying9 w4) (trodAll_cons_mk (Below.trod laidOut (by kernel_rfl) (of_decide_eq_true (by kernel_rfl)) k5 bel lt5) (trodAll_cons_mk (Below.trod laidOut (by kernel_rfl) (of_decide_eq_true (by kernel_rfl)) k6 bel lt6) trodAll_mk0))))))), rfl, bel.frame _, fun h => by cases h⟩

theorem over : Rows.fnRefOfRoundTripsARefRow.holds Try.pinned (OpenSpec.ofChange Rows.fnRefOfRoundTripsARefSpec) :=
  OpenClaim.holds_of_wide 4 Try.f4 rfl rfl rfl rfl rfl rfl rfl ⟨rfl, rfl, rfl, rfl, rfl⟩ rfl rfl rfl rfl rfl (by kernel_rfl) Try.func4 (by kernel_rfl)
    (of_decide_eq_true (by kernel_rfl)) (by unfold Func.isWrapper; first | (rw [if_pos (by decide +kernel)]; kernel_rfl) | (rw [if_neg (by decide +kernel)]; exact ⟨rfl, rfl⟩))
    (fun os started H enc _ => lifted os started H enc)

/-- The statement. -/
theorem proved : Rows.FnRefOfRoundTripsARefSaid := over
#print axioms proved
end Go.Proofs.Qxb6605665a.fnRefOfRoundTripsARef
