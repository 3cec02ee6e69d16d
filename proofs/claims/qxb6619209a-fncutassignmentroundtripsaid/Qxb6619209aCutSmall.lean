/- The small callees of FnCutAssignmentRoundTrip: zzBytes.. (6), zzB1IsSep (7). -/
import Derived.Test.Qxb6619209aRows
import Derived.WalkKit
import Derived.WalkSpells
import Derived.WalkLawsBesides
import Derived.Deep.QuietTactic
import Derived.BigQuiet
namespace Go.Proofs.Qxb6619209a
open Go.RowKit

theorem bytes_ok (k v : ByteArray) (w : World) (h : (k.size : Int) + v.size ≤ 1048576) :
    Calls Try.prog 6 #[.string k, .string v] w fun e w' => e = .returned (.bool true) ∧ w = w' := by
  go_enter Try.func6, Try.ntmps6
  go_wp2
  go_ret
  exact ⟨rfl, rfl⟩

theorem bytes_no (k v : ByteArray) (w : World) (hk : k.size ≤ maxLen) (hv : v.size ≤ maxLen) (h : 1048576 < (k.size : Int) + v.size) :
    Calls Try.prog 6 #[.string k, .string v] w fun e w' => e = .returned (.bool false) ∧ w = w' := by
  unfold maxLen at hk hv
  by_cases h1 : 1048576 < (k.size : Int)
  · go_enter Try.func6, Try.ntmps6
    go_wp2
    go_ret
    exact ⟨rfl, rfl⟩
  · by_cases h2 : 1048576 < (v.size : Int)
    · go_enter Try.func6, Try.ntmps6
      go_wp2
      go_ret
      exact ⟨rfl, rfl⟩
    · go_enter Try.func6, Try.ntmps6
      go_wp2
      go_ret
      exact ⟨rfl, rfl⟩

theorem sep_no (c : Int) (w : World) (h1 : (c == 32) = false) (h2 : (c == 9) = false) (h3 : (c == 61) = false) :
    Calls Try.prog 7 #[.int .u8 c] w fun e w' => e = .returned (.bool false) ∧ w = w' := by
  go_enter Try.func7, Try.ntmps7
  go_wp2
  go_ret
  exact ⟨rfl, rfl⟩

theorem sep_yes (c : Int) (w : World) (h : c = 32 ∨ c = 9 ∨ c = 61) :
    Calls Try.prog 7 #[.int .u8 c] w fun e w' => e = .returned (.bool true) ∧ w = w' := by
  rcases h with rfl | rfl | rfl
  all_goals
    go_enter Try.func7, Try.ntmps7
    go_wp2
    go_ret
    exact ⟨rfl, rfl⟩
end Go.Proofs.Qxb6619209a
