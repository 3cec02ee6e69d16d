/- FnDivOutInTwoSteps (4): the law's own walk. -/
import Derived.Test.Qxb6619629aMul
namespace Go.Proofs.Qxb6619629a
open Go.RowKit

set_option maxHeartbeats 800000 in
theorem lawB (x y g h : Int) (x1 : -9223372036854775808 ≤ x) (x2 : x ≤ 9223372036854775807) (y1 : -9223372036854775808 ≤ y) (y2 : y ≤ 9223372036854775807) (g2 : g ≤ 9223372036854775807) (h2 : h ≤ 9223372036854775807) (w : World) :
    Calls Try.prog 4 #[.int .i64 x, .int .i64 y, .int .i64 g, .int .i64 h] w fun e w' => e = .returned (.bool true) ∧ ∃ m, w' = w.drewN m := by
  by_cases hg : g ≤ 0
  · go_enter Try.func4, Try.ntmps4
    go_wp2
    go_ret
    exact ⟨rfl, 0, rfl⟩
  by_cases hh : h ≤ 0
  · go_enter Try.func4, Try.ntmps4
    go_wp2
    go_ret
    exact ⟨rfl, 0, rfl⟩
  obtain ⟨p, rfl⟩ := Int.eq_ofNat_of_zero_le (show 0 ≤ g by omega)
  obtain ⟨q, rfl⟩ := Int.eq_ofNat_of_zero_le (show 0 ≤ h by omega)
  have hp0 : 0 < (p : Int) := by omega
  have hq0 : 0 < (q : Int) := by omega
  clear hg hh
  have C := mulU p q (by omega) (by omega)
  obtain ⟨M, hM⟩ : ∃ M, M = p * q := ⟨_, rfl⟩
  rw [← hM] at C
  by_cases hbig : 9223372036854775808 ≤ M
  · obtain ⟨hi, hhi⟩ : ∃ hi, hi = M / 18446744073709551616 := ⟨_, rfl⟩
    obtain ⟨lo, hlo⟩ : ∃ lo, lo = M % 18446744073709551616 := ⟨_, rfl⟩
    rw [← hhi, ← hlo] at C
    by_cases h0 : hi = 0
    · have hl : 9223372036854775807 < (lo : Int) := by omega
      subst h0
      clear hbig hhi hlo hM
      go_enter Try.func4, Try.ntmps4
      go_wp2_with fail
      refine (C _).mono ?_
      rintro e w' ⟨rfl, rfl⟩
      clear C
      go_wp2
      go_ret
      exact ⟨rfl, 0, rfl⟩
    · have hn : ((hi : Int) != 0) = true := by simpa using h0
      clear hbig hhi hlo hM h0
      go_enter Try.func4, Try.ntmps4
      go_wp2_with fail
      refine (C _).mono ?_
      rintro e w' ⟨rfl, rfl⟩
      clear C
      go_wp2
      go_ret
      exact ⟨rfl, 0, rfl⟩
  · rw [Nat.div_eq_of_lt (by omega), Nat.mod_eq_of_lt (by omega)] at C
    have hMi : (M : Int) = (p : Int) * (q : Int) := by rw [hM, Int.natCast_mul]
    have ew : wrap64 ((p : Int) * (q : Int)) = (M : Int) := by rw [← hMi]; exact IntWalk.wrap64_in _ ⟨by omega, by omega⟩
    have hM0 : 0 < M := by rw [hM]; exact Nat.mul_pos (by omega) (by omega)
    have hMz : ((M : Int) == 0) = false := by simp; omega
    have hMle : (M : Int) ≤ 9223372036854775807 := by omega
    have HM : Hid ((M : Int) = (p : Int) * (q : Int)) := hMi
    clear hMi hM hbig
    by_cases hx : x.tmod M = 0
    rotate_left
    · have hx' : (x.tmod M != 0) = true := by simpa using hx
      clear hx
      go_enter Try.func4, Try.ntmps4
      go_wp2_with fail
      refine (C _).mono ?_
      rintro e w' ⟨rfl, rfl⟩
      clear C
      go_wp2
      go_ret
      exact ⟨rfl, 0, rfl⟩
    by_cases hy : y.tmod M = 0
    rotate_left
    · have hy' : (y.tmod M != 0) = true := by simpa using hy
      clear hy
      go_enter Try.func4, Try.ntmps4
      go_wp2_with fail
      refine (C _).mono ?_
      rintro e w' ⟨rfl, rfl⟩
      clear C
      go_wp2
      go_ret
      exact ⟨rfl, 0, rfl⟩
    obtain ⟨a, ha⟩ : ∃ a, a = x.tdiv M := ⟨_, rfl⟩
    obtain ⟨b, hb⟩ : ∃ b, b = y.tdiv M := ⟨_, rfl⟩
    have qa : a * M = x := by rw [ha]; exact quot_of hx
    have qb : b * M = y := by rw [hb]; exact quot_of hy
    obtain ⟨a1, ha1⟩ : ∃ a1, a1 = a * q := ⟨_, rfl⟩
    obtain ⟨b1, hb1⟩ : ∃ b1, b1 = b * q := ⟨_, rfl⟩
    have qa1 : a1 * p = x := by rw [ha1, ← qa, HM.out, Int.mul_assoc, Int.mul_comm (q : Int)]
    have qb1 : b1 * p = y := by rw [hb1, ← qb, HM.out, Int.mul_assoc, Int.mul_comm (q : Int)]
    obtain ⟨u1, u2, _⟩ := quot_bd (by omega) qa1 x1 x2
    obtain ⟨v1, v2, _⟩ := quot_bd (by omega) qb1 y1 y2
    have C1 := divOut_any a1 b1 x y p (by omega) qa1 qb1 x1 x2 y1 y2
    have C2 := divOut_any a b a1 b1 q (by omega) ha1.symm hb1.symm u1 u2 v1 v2
    have C3 := divOut_any a b x y M (by omega) qa qb x1 x2 y1 y2
    have E1 := exact_any a M x (by omega) hMle qa x1 x2
    have E2 := exact_any b M y (by omega) hMle qb y1 y2
    clear ha hb qa qb ha1 hb1 qa1 qb1 u1 u2 v1 v2
    go_enter Try.func4, Try.ntmps4
    go_wp2_with fail
    refine (C _).mono ?_
    rintro e w' ⟨rfl, rfl⟩
    clear C
    go_wp2_with fail
    refine (C1 _).mono ?_
    rintro e w' ⟨rfl, m1, rfl⟩
    go_wp2_with fail
    refine (C2 _).mono ?_
    rintro e w' ⟨rfl, m2, rfl⟩
    go_wp2_with fail
    refine (C3 _).mono ?_
    rintro e w' ⟨rfl, m3, rfl⟩
    go_wp2_with fail
    refine (E1 _).mono ?_
    rintro e w' ⟨rfl, rfl⟩
    go_wp2_with fail
    refine (E2 _).mono ?_
    rintro e w' ⟨rfl, rfl⟩
    clear C1 C2 C3 E1 E2
    go_wp2
    go_ret
    exact ⟨rfl, _, rfl⟩
end Go.Proofs.Qxb6619629a
