import Derived.Test.Qxb6604695aJoin
import Derived.Deep.QuietTactic
import Derived.BigQuiet
namespace Go.Proofs.Qxb6604695a
open Go.RowKit

set_option maxHeartbeats 1000000 in
/-- endsWithBytes: where the last bytes are those of s: true. -/
theorem ends_yes (B m cap : Nat) (s : ByteArray) (w : World) (hm : m ≤ 1048576) (hs : s.size ≤ m) (hc : ∀ j (h : j < s.size), w.cell? ⟨B, m - s.size + j, none⟩ = some (.int .u8 ((s[j].toNat : Nat) : Int))) :
    Calls Try.prog 10 #[.slice (some ⟨B, 0, none⟩) m cap, .string s] w fun e w' => e = .returned (.bool true) ∧ ∃ n, w' = w.drewN n := by
  go_enter Try.func10, Try.ntmps10
  go_wp2
  go_loopw [5] (fun i wr => ∃ k q : Nat, k ≤ s.size ∧ i = .int .i64 k ∧ wr = w.drewN q) (fun i _ => s.size - (intOf i).toNat)
  case atStart => exact ⟨0, 0, Nat.zero_le _, rfl, rfl⟩
  case round =>
    obtain ⟨k, q, hk, rfl, rfl⟩ := hrel
    by_cases hlt : k < s.size
    · have hck := hc k hlt
      have w1 : IntKind.i64.wrap ((m : Int) - s.size) = (m : Int) - s.size := by rw [IntKind.wrap_i64]; omega
      have w2 : IntKind.i64.wrap ((m : Int) - s.size + k) = (m : Int) - s.size + k := by rw [IntKind.wrap_i64]; omega
      have n1 : ((m : Int) - s.size + k).toNat = m - s.size + k := by omega
      have z1 : (0 : Int) ≤ (m : Int) - s.size + k := by omega
      have l1 : (m : Int) - s.size + k < m := by omega
      have z2 : (0 : Int) ≤ k := by omega
      have l2 : (k : Int) < s.size := by omega
      clear hc
      go_wp2
      go_quiet (fail)
      go_wp2
      go_roundw
      case rel => exact ⟨k + 1, _, by omega, by go_num, rfl⟩
      case measure => simp [intOf]; omega
    · go_wp2
      go_ret
      exact ⟨rfl, _, rfl⟩
end Go.Proofs.Qxb6604695a
