/- FnDivOutExactQuotient (3): the law's own walk. -/
import Derived.Test.Qxb6619629aMul
namespace Go.Proofs.Qxb6619629a
open Go.RowKit

set_option maxHeartbeats 800000 in
theorem lawA (x y g : Int) (x1 : -9223372036854775808 ≤ x) (x2 : x ≤ 9223372036854775807) (y1 : -9223372036854775808 ≤ y) (y2 : y ≤ 9223372036854775807) (g2 : g ≤ 9223372036854775807) (w : World) :
    Calls Try.prog 3 #[.int .i64 x, .int .i64 y, .int .i64 g] w fun e w' => e = .returned (.bool true) ∧ ∃ m, w' = w.drewN m := by
  by_cases hg : g ≤ 0
  · go_enter Try.func3, Try.ntmps3
    go_wp2
    go_ret
    exact ⟨rfl, 0, rfl⟩
  have hg0 : 0 < g := by omega
  have hgz : (g == 0) = false := by simp; omega
  by_cases hx : x.tmod g = 0
  · by_cases hy : y.tmod g = 0
    · have C1 := divOut_any (x.tdiv g) (y.tdiv g) x y g (by omega) (quot_of hx) (quot_of hy) x1 x2 y1 y2
      have C2 := divOut_any (y.tdiv g) (x.tdiv g) y x g (by omega) (quot_of hy) (quot_of hx) y1 y2 x1 x2
      have E1 := exact_any (x.tdiv g) g x (by omega) g2 (quot_of hx) x1 x2
      have E2 := exact_any (y.tdiv g) g y (by omega) g2 (quot_of hy) y1 y2
      obtain ⟨a, ha⟩ : ∃ a, a = x.tdiv g := ⟨_, rfl⟩
      obtain ⟨b, hb⟩ : ∃ b, b = y.tdiv g := ⟨_, rfl⟩
      rw [← ha, ← hb] at C1 C2
      rw [← ha] at E1
      rw [← hb] at E2
      clear ha hb
      go_enter Try.func3, Try.ntmps3
      go_wp2_with fail
      refine (C1 _).mono ?_
      rintro e w' ⟨rfl, m1, rfl⟩
      go_wp2_with fail
      refine (C2 _).mono ?_
      rintro e w' ⟨rfl, m2, rfl⟩
      go_wp2_with fail
      refine (E1 _).mono ?_
      rintro e w' ⟨rfl, rfl⟩
      go_wp2_with fail
      refine (E2 _).mono ?_
      rintro e w' ⟨rfl, rfl⟩
      clear C1 C2 E1 E2
      go_wp2
      go_ret
      exact ⟨rfl, _, rfl⟩
    · have hy' : (y.tmod g != 0) = true := by simpa using hy
      clear hy
      go_enter Try.func3, Try.ntmps3
      go_wp2
      go_ret
      exact ⟨rfl, 0, rfl⟩
  · have hx' : (x.tmod g != 0) = true := by simpa using hx
    clear hx
    go_enter Try.func3, Try.ntmps3
    go_wp2
    go_ret
    exact ⟨rfl, 0, rfl⟩
end Go.Proofs.Qxb6619629a
