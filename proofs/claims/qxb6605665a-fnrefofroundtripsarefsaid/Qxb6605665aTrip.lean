import Derived.Test.Qxb6605665aFacts
namespace Go.Proofs.Qxb6605665a
open Go.RowKit Go.Maps Go.WideMaps

theorem cells_two_new (w : World) (a b : Value) (t : TypeId) : ∀ ad, some (⟨w.heap.size, 0, none⟩ : Addr) = some ad → ∀ j u, [a, b][j]? = some u → (w.alloc (.cells #[a, b] t)).cell? (ad.add j) = some u := by
  intro ad e j u hu
  obtain rfl := Option.some.inj e
  rw [Go.WideShapes.add_plain, Nat.zero_add]
  match j, hu with
  | 0, hu => simp at hu; subst hu; simp
  | 1, hu => simp at hu; subst hu; simp
theorem two_one (a b : ByteArray) : ∀ x ∈ [Value.string a, Value.string b], x.oneCell' = true := by
  intro x hx
  simp only [List.mem_cons, List.not_mem_nil, or_false] at hx
  rcases hx with rfl | rfl <;> rfl
/-- One pair behind the others: what is owned, and what stands below. -/
theorem below_push {w2 w4 w5 : World} {o : Obj} (B : Below w2.heap.size w2 w4) (hg : (w4.alloc o).grownBy w5 (some w2.heap.size)) : Below w2.heap.size w2 w5 :=
  (B.alloc B.size _).grown hg (by have := B.size; simp; omega) (fun k h => by cases h; exact Nat.le_refl _)

set_option maxHeartbeats 4000000 in
theorem walk_main (a0 a1 : Option Addr) (n0 c0 n1 c1 : Nat) (v k s m u : ByteArray) (ps qs : List Pr) (w : World) (s0 : v.size ≤ 1048576) (s1 : k.size ≤ 1048576) (s2 : s.size ≤ 1048576) (s3 : m.size ≤ 1048576) (s4 : u.size ≤ 1048576) (hn0 : n0 ≤ 1048576) (hn1 : n1 ≤ 1048576)
    (hp : Pairs w a0 n0 ps) (hq : Pairs w a1 n1 qs) (hzp : PSized ps) (hzq : PSized qs) (hz0 : a0 = none → n0 = 0 ∧ c0 = 0) (hz1 : a1 = none → n1 = 0 ∧ c1 = 0) :
    Calls Try.prog 4 #[.string v, .string k, .string s, .string m, .string u, .slice a0 n0 c0, .slice a1 n1 c1] w fun e w' => e = .returned (.bool true) ∧ Below w.heap.size w w' := by
  have T := bytes18_any a0 a1 n0 c0 n1 c1 v k s m u ps qs w (by omega) (by omega) (by omega) (by omega) (by omega) (by omega) (by omega) hp hq hzp hzq
  have P0 := pairBytes_any a0 n0 c0 ps w hn0 hp hzp
  have P1 := pairBytes_any a1 n1 c1 qs w hn1 hq hzq
  have K0 := clone_any a0 n0 c0 ps w hn0 hp hz0
  have K1 := fun w1 (hb : Below w.heap.size w w1) => clone_any a1 n1 c1 qs w1 hn1 (pairs_later hb hq) hz1
  obtain ⟨i0, hi, iz0, iz1, iz2⟩ := info_parts info38
  have HT := top_sized hzp (v := v) (k := k) (by omega) (by omega)
  have HM := meta_sized hzq (s := s) (m := m) (u := u) (by omega) (by omega) (by omega)
  have HLP : Hid _ := hp.1
  have HLQ : Hid _ := hq.1
  have HI : Hid _ := hi
  have HI1 : Hid _ := iz1
  have HI0 : Hid _ := iz0
  have HI2 : Hid _ := iz2
  clear hp hq hzp hzq hz0 hz1 hi iz0 iz1 iz2
  go_enter Try.func4, Try.ntmps4
  go_wp2_with fail
  refine T.mono ?_
  rintro e w9 ⟨⟨b, rfl⟩, hw⟩
  subst w9
  cases b
  · go_wp2
    go_ret
    exact ⟨rfl, Below.refl _ _⟩
  · clear T
    go_wp2_with (first | (go_at_call 19; refine (text_small _ _ (by omega)).mono ?_; rintro e w9 ⟨rfl, hw⟩; subst w9))
    refine P0.mono ?_
    rintro e w9 ⟨⟨t5, x5, y5, rfl⟩, hw⟩
    subst w9
    go_wp2_with fail
    refine P1.mono ?_
    rintro e w9 ⟨⟨t6, x6, y6, rfl⟩, hw⟩
    subst w9
    clear P0 P1
    by_cases hsum : 1048576 < (v.size : Int) + k.size + s.size + m.size + u.size + t5 + t6
    · go_wp2
      go_ret
      exact ⟨rfl, Below.refl _ _⟩
    · have hsum' : (v.size : Int) + k.size + s.size + m.size + u.size + t5 + t6 ≤ 1048576 := by omega
      clear hsum
      go_wp2_with fail
      clear hsum' x5 y5 x6 y6
      refine K0.mono ?_
      rintro e w1 ⟨b0, d0, rfl, hp1, hz0, B1⟩
      go_wp2_with fail
      refine (K1 w1 B1).mono ?_
      rintro e w2 ⟨b1, d1, rfl, hq2, hz1, B2'⟩
      have B2 := below_step B1 B2'
      have hp2 := pairs_later B2' hp1
      clear K0 K1 B1 B2' hp1
      have hm2 : i0.bytes * (n0 + 2) ≤ 281474976710656 := by rw [HI2.out]; omega
      have hm3 : n0 + 2 ≤ maxLen := by unfold maxLen; omega
      go_wp2_with (at_make; refine wpList_make_own _ rfl _ _ 22 rfl w2.heap.size 38 i0 (.agg #[.string ByteArray.empty, .string ByteArray.empty]) 2 Try.underlying22 HI.out HI0.out HI1.out .i64 .i64 _ (n0 + 2) rfl rfl (by omega) hm2 hm3 (Nat.le_refl _) ?_)
      intro w3 hown3 hg3
      have B3' : Below w2.heap.size w2 w3 := (Below.refl _ _).grown hg3 (Nat.le_refl _) (fun k h => by cases h)
      have hp3 := pairs_later B3' hp2
      clear hg3 hm2 hm3 hp2
      go_wp2_with (at_builtin; refine wpList_append_fits_any _ rfl (.tmp 58) (.tmp 59) 22 rfl w2.heap.size 38 i0 2 Try.underlying22 HI.out HI1.out w2.heap.size 0 (n0 + 2) [] rfl hown3 b0 n0 d0 (flat ps) rfl (by rw [flat_len, HLP.out]) hz0 (pairs_cells hp3) (flat_one ps) (by omega) ?_)
      intro w4 hown4 hg4
      have B4 : Below w2.heap.size w2 w4 := B3'.grown hg4 B3'.size (fun k h => by cases h; exact Nat.le_refl _)
      clear hg4 hown3 B3' hp3
      go_wp2_with (at_builtin; refine wpList_append_fits_any _ rfl (.tmp 61) (.tmp 64) 22 rfl w2.heap.size 38 i0 2 Try.underlying22 HI.out HI1.out w2.heap.size (n0) (n0 + 2) _ rfl (hown4.alloc _) (some ⟨w4.heap.size, 0, none⟩) 1 1 [.string ⟨#[97, 112, 105, 86, 101, 114, 115, 105, 111, 110]⟩, .string v] rfl rfl (fun h => by cases h) ?hc1 (two_one _ _) (by omega) ?_)
      case hc1 => exact cells_two_new _ _ _ _
      intro w5 hown5 hg5
      have B5 : Below w2.heap.size w2 w5 := below_push B4 hg5
      clear hg5 hown4 B4
      go_wp2_with (at_builtin; refine wpList_append_fits_any _ rfl (.tmp 66) (.tmp 69) 22 rfl w2.heap.size 38 i0 2 Try.underlying22 HI.out HI1.out w2.heap.size (n0 + 1) (n0 + 2) _ rfl (hown5.alloc _) (some ⟨w5.heap.size, 0, none⟩) 1 1 [.string ⟨#[107, 105, 110, 100]⟩, .string k] rfl rfl (fun h => by cases h) ?hc2 (two_one _ _) (by omega) ?_)
      case hc2 => exact cells_two_new _ _ _ _
      intro w6 hown6 hg6
      have B6 : Below w2.heap.size w2 w6 := below_push B5 hg6
      clear hg6 hown5 B5
      have hT6 : Pairs w6 (some ⟨w2.heap.size, 0, none⟩) (n0 + 1 + 1) (topOf ps v k) := pairs_of_own (by rw [flat_top]; simpa [kApi, kKind] using hown6)
      have hq6 := pairs_later B6 hq2
      have C6 := below_step B2 B6
      clear hown6 B6 hq2 B2
      have hm2 : i0.bytes * (n1 + 3) ≤ 281474976710656 := by rw [HI2.out]; omega
      have hm3 : n1 + 3 ≤ maxLen := by unfold maxLen; omega
      go_wp2_with (at_make; refine wpList_make_own _ rfl _ _ 22 rfl w6.heap.size 38 i0 (.agg #[.string ByteArray.empty, .string ByteArray.empty]) 2 Try.underlying22 HI.out HI0.out HI1.out .i64 .i64 _ (n1 + 3) rfl rfl (by omega) hm2 hm3 (Nat.le_refl _) ?_)
      intro w7 hown7 hg7
      have B7' : Below w6.heap.size w6 w7 := (Below.refl _ _).grown hg7 (Nat.le_refl _) (fun k h => by cases h)
      have hq7 := pairs_later B7' hq6
      clear hg7 hm2 hm3 hq6
      go_wp2_with (at_builtin; refine wpList_append_fits_any _ rfl (.tmp 75) (.tmp 76) 22 rfl w6.heap.size 38 i0 2 Try.underlying22 HI.out HI1.out w6.heap.size 0 (n1 + 3) [] rfl hown7 b1 n1 d1 (flat qs) rfl (by rw [flat_len, HLQ.out]) hz1 (pairs_cells hq7) (flat_one qs) (by omega) ?_)
      intro w8 hown8 hg8
      have B8 : Below w6.heap.size w6 w8 := B7'.grown hg8 B7'.size (fun k h => by cases h; exact Nat.le_refl _)
      clear hg8 hown7 B7' hq7
      go_wp2_with (at_builtin; refine wpList_append_fits_any _ rfl (.tmp 78) (.tmp 81) 22 rfl w6.heap.size 38 i0 2 Try.underlying22 HI.out HI1.out w6.heap.size (n1) (n1 + 3) _ rfl (hown8.alloc _) (some ⟨w8.heap.size, 0, none⟩) 1 1 [.string ⟨#[110, 97, 109, 101, 115, 112, 97, 99, 101]⟩, .string s] rfl rfl (fun h => by cases h) ?hc3 (two_one _ _) (by omega) ?_)
      case hc3 => exact cells_two_new _ _ _ _
      intro w9 hown9 hg9
      have B9 : Below w6.heap.size w6 w9 := below_push B8 hg9
      clear hg9 hown8 B8
      go_wp2_with (at_builtin; refine wpList_append_fits_any _ rfl (.tmp 83) (.tmp 86) 22 rfl w6.heap.size 38 i0 2 Try.underlying22 HI.out HI1.out w6.heap.size (n1 + 1) (n1 + 3) _ rfl (hown9.alloc _) (some ⟨w9.heap.size, 0, none⟩) 1 1 [.string ⟨#[110, 97, 109, 101]⟩, .string m] rfl rfl (fun h => by cases h) ?hc4 (two_one _ _) (by omega) ?_)
      case hc4 => exact cells_two_new _ _ _ _
      intro w10 hown10 hg10
      have B10 : Below w6.heap.size w6 w10 := below_push B9 hg10
      clear hg10 hown9 B9
      go_wp2_with (at_builtin; refine wpList_append_fits_any _ rfl (.tmp 88) (.tmp 91) 22 rfl w6.heap.size 38 i0 2 Try.underlying22 HI.out HI1.out w6.heap.size (n1 + 1 + 1) (n1 + 3) _ rfl (hown10.alloc _) (some ⟨w10.heap.size, 0, none⟩) 1 1 [.string ⟨#[117, 105, 100]⟩, .string u] rfl rfl (fun h => by cases h) ?hc5 (two_one _ _) (by omega) ?_)
      case hc5 => exact cells_two_new _ _ _ _
      intro w11 hown11 hg11
      have B11 : Below w6.heap.size w6 w11 := below_push B10 hg11
      clear hg11 hown10 B10
      have hM11 : Pairs w11 (some ⟨w6.heap.size, 0, none⟩) (n1 + 1 + 1 + 1) (metaOf qs s m u) := pairs_of_own (by rw [flat_meta]; simpa [kSpace, kName, kUid] using hown11)
      have hT11 := pairs_later B11 hT6
      have C11 := below_step C6 B11
      clear hown11 B11 hT6 C6 HI HI0 HI1 HI2 HLP HLQ hz0 hz1
      go_wp2_with fail
      refine (newObj_is (some ⟨w2.heap.size, 0, none⟩) (n0 + 1 + 1) (n0 + 2) (topOf ps v k) w11 (by omega) hT11 HT).mono ?_
      rintro e w12 ⟨p1, rfl, g1, l1, m1, D12⟩
      have E11 := C11.size
      have hM12 := pairs_later D12 hM11
      have C12 := below_step C11 D12
      clear hT11 hM11 HT C11
      go_wp2_with fail
      refine (newObj_is (some ⟨w6.heap.size, 0, none⟩) (n1 + 1 + 1 + 1) (n1 + 3) (metaOf qs s m u) w12 (by omega) hM12 HM).mono ?_
      rintro e w13 ⟨p2, rfl, g2, l2, m2, D13⟩
      have C13 := below_step C12 D13
      have g1' := cell_later D13 g1
      have m1' := ownsMap_later D13 m1
      have e12 : w11.heap.size < w12.heap.size := m1.lt
      have e11 : w.heap.size ≤ w11.heap.size := E11
      have f1 := World.block_lt_of_cell? _ _ g1
      clear hM12 HM C12 D13 m1 g1 D12
      go_wp2_with fail
      refine (setObj_is p1 p2 w11.heap.size w12.heap.size _ (fill (topOf ps v k)) kMeta w13 (by decide) (by omega) g1' g2 m1').mono ?_
      rintro e w14 ⟨rfl, o14, hg14⟩
      have m14 : w14.ownsMap Try.prog 9 asIs w12.heap.size _ (fill (metaOf qs s m u)) := m2.kept hg14 (fun e => by have := Option.some.inj e; omega)
      have g14 : w14.cell? ⟨p1, 0, none⟩ = some (.map (some w11.heap.size)) := cell_far hg14 g1' (fun e => by have : p1 = w11.heap.size := e; omega)
      have C14 : Below w.heap.size w w14 := C13.grown hg14 C13.size (fun j hj => by cases hj; exact e11)
      clear g1' g2 m1' m2 hg14 C13 E11 e11 e12 l1 l2 f1
      have Z := fun o => zzRefOf_is p1 w11.heap.size _ (objOf ps v k w12.heap.size) w12.heap.size _ (fill (metaOf qs s m u)) v k s m u (w14.alloc o) (cell_later ((Below.refl _ _).alloc (Nat.le_refl _) o) g14) (o14.alloc o) (m14.alloc o) (obj_meta _ _ _ _) (obj_api _ _ _ _) (obj_kind _ _ _ _) (meta_space _ _ _ _) (meta_name _ _ _ _) (meta_uid _ _ _ _)
      clear g14 o14 m14
      go_wp2_with fail
      refine (Z _).mono ?_
      rintro e w15 ⟨rfl, D15⟩
      have X15 : Box w15 w14.heap.size v k s m u := Box.later D15 (Box.new _ _ _ _ _ _)
      have C15 : Below w.heap.size w w15 := below_step (C14.alloc C14.size _) D15
      have z15 : w14.heap.size < w15.heap.size := by have := D15.size; simp at this; omega
      have x0 := X15.1
      have x1 := X15.2.1
      have x2 := X15.2.2.1
      have x3 := X15.2.2.2.1
      have x4 := X15.2.2.2.2
      clear D15 Z C14
      go_wp2_with fail
      refine (same_4 v k s m u v k s m u _ (by omega) (by omega) (by simp) (by simp) (by simp) (by simp)).mono ?_
      rintro e w16 ⟨rfl, D16⟩
      have C16 : Below w.heap.size w w16 := below_step (C15.alloc C15.size _) D16
      clear x0 x1 x2 x3 x4 X15 D16 C15
      go_wp2
      go_ret
      exact ⟨rfl, C16⟩
set_option maxHeartbeats 1000000 in
theorem walk_far (a0 a1 : Option Addr) (n0 c0 n1 c1 : Nat) (v k s m u : ByteArray) (ps qs : List Pr) (w : World) (s0 : v.size ≤ 9223372036854775807) (s1 : k.size ≤ 9223372036854775807) (s2 : s.size ≤ 9223372036854775807) (s3 : m.size ≤ 9223372036854775807) (s4 : u.size ≤ 9223372036854775807) (hn0 : n0 ≤ 9223372036854775807) (hn1 : n1 ≤ 9223372036854775807)
    (hp : Pairs w a0 n0 ps) (hq : Pairs w a1 n1 qs) (hzp : PSized ps) (hzq : PSized qs) (hbig : 1048576 < v.size ∨ 1048576 < k.size ∨ 1048576 < s.size ∨ 1048576 < m.size ∨ 1048576 < u.size ∨ 1048576 < n0 ∨ 1048576 < n1) :
    Calls Try.prog 4 #[.string v, .string k, .string s, .string m, .string u, .slice a0 n0 c0, .slice a1 n1 c1] w fun e w' => e = .returned (.bool true) ∧ Below w.heap.size w w' := by
  have T := bytes18_any a0 a1 n0 c0 n1 c1 v k s m u ps qs w s0 s1 s2 s3 s4 hn0 hn1 hp hq hzp hzq
  have P0 := pairBytes_all a0 n0 c0 ps w hp hzp
  have P1 := pairBytes_all a1 n1 c1 qs w hq hzq
  have HB : Hid _ := hbig
  clear hp hq hzp hzq s0 s1 s2 s3 s4 hn0 hn1 hbig
  go_enter Try.func4, Try.ntmps4
  go_wp2_with fail
  refine T.mono ?_
  rintro e w9 ⟨⟨b, rfl⟩, hw⟩
  subst w9
  cases b
  · go_wp2
    go_ret
    exact ⟨rfl, Below.refl _ _⟩
  · go_wp2_with fail
    refine (text_all v w).mono ?_
    rintro e w9 ⟨⟨t0, x0, y0, i0, rfl⟩, hw⟩
    subst w9
    have I0 : Hid _ := i0
    clear i0
    go_wp2_with fail
    refine (text_all k w).mono ?_
    rintro e w9 ⟨⟨t1, x1, y1, i1, rfl⟩, hw⟩
    subst w9
    have I1 : Hid _ := i1
    clear i1
    go_wp2_with fail
    refine (text_all s w).mono ?_
    rintro e w9 ⟨⟨t2, x2, y2, i2, rfl⟩, hw⟩
    subst w9
    have I2 : Hid _ := i2
    clear i2
    go_wp2_with fail
    refine (text_all m w).mono ?_
    rintro e w9 ⟨⟨t3, x3, y3, i3, rfl⟩, hw⟩
    subst w9
    have I3 : Hid _ := i3
    clear i3
    go_wp2_with fail
    refine (text_all u w).mono ?_
    rintro e w9 ⟨⟨t4, x4, y4, i4, rfl⟩, hw⟩
    subst w9
    have I4 : Hid _ := i4
    clear i4
    go_wp2_with fail
    refine P0.mono ?_
    rintro e w9 ⟨⟨t5, x5, y5, i5, rfl⟩, hw⟩
    subst w9
    have I5 : Hid _ := i5
    clear i5
    go_wp2_with fail
    refine P1.mono ?_
    rintro e w9 ⟨⟨t6, x6, y6, i6, rfl⟩, hw⟩
    subst w9
    have I6 : Hid _ := i6
    clear i6
    have hsum : 1048576 < t0 + t1 + t2 + t3 + t4 + t5 + t6 := by
      rcases HB.out with q | q | q | q | q | q | q
      · have := I0.out q; omega
      · have := I1.out q; omega
      · have := I2.out q; omega
      · have := I3.out q; omega
      · have := I4.out q; omega
      · have := I5.out q; omega
      · have := I6.out q; omega
    go_wp2
    go_ret
    exact ⟨rfl, Below.refl _ _⟩
end Go.Proofs.Qxb6605665a
