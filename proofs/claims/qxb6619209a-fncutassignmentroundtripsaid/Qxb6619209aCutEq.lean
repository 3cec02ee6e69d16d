/- zzB1EqStr (9): a slice of bytes that reads as the string: true. -/
import Derived.Test.Qxb6619209aCutSmall
namespace Go.Proofs.Qxb6619209a
open Go.RowKit

set_option maxHeartbeats 400000 in
theorem eqstr (b off cap : Nat) (s : ByteArray) (w : World) (hs : s.size ≤ maxLen)
    (hc : ∀ i (h : i < s.size), w.cell? ⟨b, off + i, none⟩ = some (.int .u8 (s[i].toNat : Int))) :
    Calls Try.prog 9 #[.slice (some ⟨b, off, none⟩) s.size cap, .string s] w fun e w' => e = .returned (.bool true) ∧ ∃ m, w' = w.drewN m := by
  unfold maxLen at hs
  go_enter Try.func9, Try.ntmps9
  go_wp2
  go_loopw [5] (fun i wr => ∃ k m : Nat, k ≤ s.size ∧ i = .int .i64 k ∧ wr = w.drewN m) (fun i _ => s.size - (intOf i).toNat)
  case atStart => exact ⟨0, 0, Nat.zero_le _, rfl, rfl⟩
  case round =>
    obtain ⟨k, m, hk, rfl, rfl⟩ := hrel
    by_cases hlt : k < s.size
    · have hck := hc k hlt
      have hlt' : (k : Int) < (s.size : Int) := by omega
      go_wp2
      go_quiet (fail)
      go_wp2
      go_roundw
      case rel => exact ⟨k + 1, _, by omega, by go_num, rfl⟩
      case measure => simp [intOf]; omega
    · go_wp2
      go_ret
      exact ⟨rfl, m, rfl⟩
end Go.Proofs.Qxb6619209a
