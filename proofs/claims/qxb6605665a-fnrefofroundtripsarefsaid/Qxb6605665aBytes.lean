import Derived.Test.Qxb6605665aPairs
namespace Go.Proofs.Qxb6605665a
open Go.RowKit
def SomeBool (e : Ending) : Prop := ∃ b, e = .returned (.bool b)
/-- Some number of no great size. -/
def SomeInt (e : Ending) : Prop := ∃ t : Int, 0 ≤ t ∧ t ≤ 2097152 ∧ e = .returned (.int .i64 t)
set_option maxHeartbeats 1000000 in
theorem pairBytes_big (ao : Option Addr) (n cap : Nat) (w : World) (hn : 1048576 < n) :
    Calls Try.prog 10 #[.slice ao n cap] w fun e w' => e = .returned (.int .i64 2097152) ∧ w' = w := by
  go_enter Try.func10, Try.ntmps10
  go_wp2
  go_ret
  exact ⟨rfl, rfl⟩
set_option maxHeartbeats 1000000 in
theorem pairBytes_any (ao : Option Addr) (n cap : Nat) (ps : List Pr) (w : World) (hn : n ≤ 1048576) (hp : Pairs w ao n ps) (hz : PSized ps) :
    Calls Try.prog 10 #[.slice ao n cap] w fun e w' => SomeInt e ∧ w' = w := by
  go_enter Try.func10, Try.ntmps10
  go_wp2
  go_loop [3, 4, 5, 6] (fun t i _ _ => ∃ (k : Nat) (z : Int), k ≤ n ∧ i = .int .i64 k ∧ t = .int .i64 z ∧ 0 ≤ z ∧ z ≤ 1048576) (fun _ i _ _ => n - (intOf i).toNat)
  case atStart => exact ⟨0, 0, Nat.zero_le _, rfl, rfl, by omega, by omega⟩
  case round =>
    obtain ⟨k, z, hk, rfl, rfl, hz0, hz1⟩ := hrel
    by_cases hlt : k < n
    · obtain ⟨B, o, rfl, hc0, hc1⟩ := hp.2 k hlt
      have hs := hz k
      obtain ⟨a, ea⟩ : ∃ a, a = (ps.getD k noPair).1 := ⟨_, rfl⟩
      obtain ⟨c, ec⟩ : ∃ c, c = (ps.getD k noPair).2 := ⟨_, rfl⟩
      rw [← ea] at hc0 hs
      rw [← ec] at hc1 hs
      obtain ⟨hsa, hsc⟩ := hs
      clear ea ec hp hz
      by_cases h1 : (1048576 : Int) < a.size
      · go_wp2
        go_ret
        exact ⟨⟨2097152, by omega, by omega, rfl⟩, rfl⟩
      · have h1' : (a.size : Int) ≤ 1048576 := by omega
        clear h1
        by_cases h2 : (1048576 : Int) < c.size
        · go_wp2
          go_ret
          exact ⟨⟨2097152, by omega, by omega, rfl⟩, rfl⟩
        · have h2' : (c.size : Int) ≤ 1048576 := by omega
          clear h2
          by_cases h3 : 1048576 < z + (32 + a.size + c.size)
          · go_wp2
            go_ret
            exact ⟨⟨2097152, by omega, by omega, rfl⟩, rfl⟩
          · have h3' : z + (32 + a.size + c.size) ≤ 1048576 := by omega
            clear h3
            go_wp2
            go_round
            case rel => exact ⟨k + 1, z + (32 + a.size + c.size), by omega, by go_num, rfl, by omega, by omega⟩
            case measure => simp [intOf]; omega
    · go_wp2
      go_ret
      exact ⟨⟨z, hz0, by omega, rfl⟩, rfl⟩

/-! ### zzBytes_FnRefOfRoundTripsARef: some bool -/
set_option maxHeartbeats 1000000 in
theorem bytes18_texts (a0 a1 : Option Addr) (n0 c0 n1 c1 : Nat) (v k s m u : ByteArray) (w : World) (s0 : v.size ≤ 9223372036854775807) (s1 : k.size ≤ 9223372036854775807) (s2 : s.size ≤ 9223372036854775807) (s3 : m.size ≤ 9223372036854775807) (s4 : u.size ≤ 9223372036854775807) (hb : 1048576 < v.size + k.size + s.size + m.size + u.size) :
    Calls Try.prog 18 #[.string v, .string k, .string s, .string m, .string u, .slice a0 n0 c0, .slice a1 n1 c1] w fun e w' => SomeBool e ∧ w' = w := by
  go_enter Try.func18, Try.ntmps18
  go_wp2
  all_goals
    go_ret
    exact ⟨⟨_, rfl⟩, rfl⟩
set_option maxHeartbeats 1000000 in
theorem bytes18_first (a0 a1 : Option Addr) (n0 c0 n1 c1 : Nat) (v k s m u : ByteArray) (w : World) (hs : v.size + k.size + s.size + m.size + u.size ≤ 1048576) (hm : n0 ≤ 9223372036854775807) (hb : 1048576 < v.size + k.size + s.size + m.size + u.size + n0) :
    Calls Try.prog 18 #[.string v, .string k, .string s, .string m, .string u, .slice a0 n0 c0, .slice a1 n1 c1] w fun e w' => SomeBool e ∧ w' = w := by
  go_enter Try.func18, Try.ntmps18
  go_wp2
  all_goals
    go_ret
    exact ⟨⟨_, rfl⟩, rfl⟩
set_option maxHeartbeats 4000000 in
theorem bytes18_loops (a0 a1 : Option Addr) (n0 c0 n1 c1 : Nat) (v k' s m u : ByteArray) (ps qs : List Pr) (w : World) (hs : v.size + k'.size + s.size + m.size + u.size ≤ 1048576) (hb : v.size + k'.size + s.size + m.size + u.size + n0 ≤ 1048576) (hm : n1 ≤ 9223372036854775807) (hp : Pairs w a0 n0 ps) (hq : Pairs w a1 n1 qs) (hzp : PSized ps) (hzq : PSized qs) :
    Calls Try.prog 18 #[.string v, .string k', .string s, .string m, .string u, .slice a0 n0 c0, .slice a1 n1 c1] w fun e w' => SomeBool e ∧ w' = w := by
  go_enter Try.func18, Try.ntmps18
  go_wp2
  go_loop [15, 16, 17] (fun t i _ => ∃ (k : Nat) (z : Int), k ≤ n0 ∧ i = .int .i64 k ∧ t = .int .i64 z ∧ 0 ≤ z ∧ z ≤ 1048576) (fun _ i _ => n0 - (intOf i).toNat)
  case atStart => exact ⟨0, _, Nat.zero_le _, rfl, rfl, by omega, by omega⟩
  case round =>
    obtain ⟨k, z, hk, rfl, rfl, hz0, hz1⟩ := hrel
    by_cases hlt : k < n0
    · have hn0 : n0 ≤ 1048576 := by omega
      clear hs hb
      obtain ⟨B, o, ex, hc0, hc1⟩ := hp.2 k hlt
      subst ex
      have hs := hzp k
      obtain ⟨a, ea⟩ : ∃ a, a = (ps.getD k noPair).1 := ⟨_, rfl⟩
      obtain ⟨c, ec⟩ : ∃ c, c = (ps.getD k noPair).2 := ⟨_, rfl⟩
      rw [← ea] at hc0 hs
      rw [← ec] at hc1 hs
      obtain ⟨hsa, hsc⟩ := hs
      clear ea ec
      clear hp hq hzp hzq
      by_cases h1 : (1048576 : Int) < a.size
      · go_wp2
        refine wp_loop_rounds 3 ?_
        rw [rounds_succ]
        go_wp2
        go_ret
        exact ⟨⟨_, rfl⟩, rfl⟩
      · have h1' : (a.size : Int) ≤ 1048576 := by omega
        clear h1
        by_cases h2 : 1048576 < z + a.size
        · go_wp2
          refine wp_loop_rounds 3 ?_
          rw [rounds_succ]
          go_wp2
          go_ret
          exact ⟨⟨_, rfl⟩, rfl⟩
        · have h2' : z + a.size ≤ 1048576 := by omega
          clear h2
          by_cases h3 : (1048576 : Int) < c.size
          · go_wp2
            refine wp_loop_rounds 3 ?_
            rw [rounds_succ]
            go_wp2
            rw [rounds_succ]
            go_wp2
            go_ret
            exact ⟨⟨_, rfl⟩, rfl⟩
          · have h3' : (c.size : Int) ≤ 1048576 := by omega
            clear h3
            by_cases h4 : 1048576 < z + a.size + c.size
            · go_wp2
              refine wp_loop_rounds 3 ?_
              rw [rounds_succ]
              go_wp2
              rw [rounds_succ]
              go_wp2
              go_ret
              exact ⟨⟨_, rfl⟩, rfl⟩
            · have h4' : z + a.size + c.size ≤ 1048576 := by omega
              clear h4
              go_wp2
              refine wp_loop_rounds 3 ?_
              rw [rounds_succ]
              go_wp2
              rw [rounds_succ]
              go_wp2
              rw [rounds_succ]
              go_wp2
              go_round
              case rel => exact ⟨k + 1, z + a.size + c.size, by omega, by go_num, rfl, by omega, by omega⟩
              case measure => simp [intOf]; omega
    · clear hp hzp hs hb
      by_cases g1 : 1048576 < n1
      · go_wp2
        go_ret
        exact ⟨⟨_, rfl⟩, rfl⟩
      · have g1' : n1 ≤ 1048576 := by omega
        clear g1 hm
        by_cases g2 : 1048576 < z + n1
        · go_wp2
          go_ret
          exact ⟨⟨_, rfl⟩, rfl⟩
        · have g2' : z + n1 ≤ 1048576 := by omega
          clear g2
          go_wp2
          go_loop [15, 18, 19] (fun t i _ => ∃ (k : Nat) (z : Int), k ≤ n1 ∧ i = .int .i64 k ∧ t = .int .i64 z ∧ 0 ≤ z ∧ z ≤ 1048576) (fun _ i _ => n1 - (intOf i).toNat)
          case atStart => exact ⟨0, _, Nat.zero_le _, rfl, rfl, by omega, by omega⟩
          case round =>
            clear hk hz0 hz1 hlt g2'
            obtain ⟨k, z, hk, rfl, rfl, hz0, hz1⟩ := hrel
            by_cases hlt : k < n1
            · skip
              obtain ⟨B, o, ex, hc0, hc1⟩ := hq.2 k hlt
              subst ex
              have hs := hzq k
              obtain ⟨a, ea⟩ : ∃ a, a = (qs.getD k noPair).1 := ⟨_, rfl⟩
              obtain ⟨c, ec⟩ : ∃ c, c = (qs.getD k noPair).2 := ⟨_, rfl⟩
              rw [← ea] at hc0 hs
              rw [← ec] at hc1 hs
              obtain ⟨hsa, hsc⟩ := hs
              clear ea ec
              clear hq hzq
              by_cases h1 : (1048576 : Int) < a.size
              · go_wp2
                refine wp_loop_rounds 3 ?_
                rw [rounds_succ]
                go_wp2
                go_ret
                exact ⟨⟨_, rfl⟩, rfl⟩
              · have h1' : (a.size : Int) ≤ 1048576 := by omega
                clear h1
                by_cases h2 : 1048576 < z + a.size
                · go_wp2
                  refine wp_loop_rounds 3 ?_
                  rw [rounds_succ]
                  go_wp2
                  go_ret
                  exact ⟨⟨_, rfl⟩, rfl⟩
                · have h2' : z + a.size ≤ 1048576 := by omega
                  clear h2
                  by_cases h3 : (1048576 : Int) < c.size
                  · go_wp2
                    refine wp_loop_rounds 3 ?_
                    rw [rounds_succ]
                    go_wp2
                    rw [rounds_succ]
                    go_wp2
                    go_ret
                    exact ⟨⟨_, rfl⟩, rfl⟩
                  · have h3' : (c.size : Int) ≤ 1048576 := by omega
                    clear h3
                    by_cases h4 : 1048576 < z + a.size + c.size
                    · go_wp2
                      refine wp_loop_rounds 3 ?_
                      rw [rounds_succ]
                      go_wp2
                      rw [rounds_succ]
                      go_wp2
                      go_ret
                      exact ⟨⟨_, rfl⟩, rfl⟩
                    · have h4' : z + a.size + c.size ≤ 1048576 := by omega
                      clear h4
                      go_wp2
                      refine wp_loop_rounds 3 ?_
                      rw [rounds_succ]
                      go_wp2
                      rw [rounds_succ]
                      go_wp2
                      rw [rounds_succ]
                      go_wp2
                      go_round
                      case rel => exact ⟨k + 1, z + a.size + c.size, by omega, by go_num, rfl, by omega, by omega⟩
                      case measure => simp [intOf]; omega
            · go_wp2
              go_ret
              exact ⟨⟨_, rfl⟩, rfl⟩
end Go.Proofs.Qxb6605665a
