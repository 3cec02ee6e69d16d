/- (Decimal).Round (4), zzSignedDiff (6). -/
import Derived.Test.Qxb6617870aRows
import Derived.WalkKit
import Derived.WalkSpells
import Derived.WalkLawsBesides
import Derived.Deep.QuietTactic
import Derived.BigQuiet
namespace Go.Proofs.Qxb6617870a
open Go.RowKit

/-- Go's rounding: half away from zero. -/
def rnd (d : Int) : Int := if 500000 ≤ d.tmod 1000000 then d.tdiv 1000000 + 1 else if d.tmod 1000000 ≤ -500000 then d.tdiv 1000000 - 1 else d.tdiv 1000000

theorem quot_rest (d : Int) : ∃ q r : Int, d.tdiv 1000000 = q ∧ d.tmod 1000000 = r ∧ d = 1000000 * q + r ∧ -1000000 < r ∧ r < 1000000 ∧ (0 ≤ d → 0 ≤ q ∧ 0 ≤ r) ∧ (d ≤ 0 → q ≤ 0 ∧ r ≤ 0) := by
  refine ⟨_, _, rfl, rfl, (Int.mul_tdiv_add_tmod d 1000000).symm, ?_, ?_, ?_, ?_⟩
  · have := Int.lt_tmod_of_pos d (show (0 : Int) < 1000000 by decide); omega
  · exact Int.tmod_lt_of_pos d (by decide)
  · intro h; exact ⟨Int.tdiv_nonneg h (by decide), Int.tmod_nonneg _ h⟩
  · intro h
    have e : d = -(-d) := by omega
    constructor
    · rw [e, Int.neg_tdiv]
      have := Int.tdiv_nonneg (show 0 ≤ -d by omega) (show (0 : Int) ≤ 1000000 by decide)
      omega
    · rw [e, Int.neg_tmod]
      have := Int.tmod_nonneg (1000000 : Int) (show 0 ≤ -d by omega)
      omega
theorem rnd_neg (d : Int) : rnd (-d) = -rnd d := by
  unfold rnd
  rw [Int.neg_tdiv, Int.neg_tmod]
  repeat' split
  all_goals omega
theorem rnd_near (d : Int) : -500000 ≤ d - 1000000 * rnd d ∧ d - 1000000 * rnd d ≤ 500000 ∧ (d - 1000000 * rnd d = 500000 → d < 0) ∧ (d - 1000000 * rnd d = -500000 → 0 < d) := by
  obtain ⟨q, r, hq, hr, hd, r1, r2, p1, p2⟩ := quot_rest d
  unfold rnd
  rw [hq, hr]
  by_cases h0 : 0 ≤ d
  · have := p1 h0
    split
    · omega
    · split <;> omega
  · have := p2 (by omega)
    split
    · omega
    · split <;> omega
theorem rnd_bd {d : Int} (h1 : -9223372036854775808 ≤ d) (h2 : d ≤ 9223372036854775807) : -9223372036855 ≤ rnd d ∧ rnd d ≤ 9223372036855 := by
  have := rnd_near d
  omega

theorem round_any (d : Int) (h1 : -9223372036854775808 ≤ d) (h2 : d ≤ 9223372036854775807) (w : World) :
    Calls Try.prog 4 #[.int .i64 d] w fun e w' => e = .returned (.int .i64 (rnd d)) ∧ w = w' := by
  obtain ⟨q, r, hq, hr, hd, r1, r2, _, _⟩ := quot_rest d
  have e : rnd d = if 500000 ≤ r then q + 1 else if r ≤ -500000 then q - 1 else q := by unfold rnd; rw [hq, hr]
  have b1 : -9223372036855 ≤ q := by omega
  have b2 : q ≤ 9223372036855 := by omega
  clear hd r1 r2
  by_cases c1 : 500000 ≤ r
  · rw [e, if_pos c1]
    clear e
    go_enter Try.func4, Try.ntmps4
    go_wp2
    go_ret
    exact ⟨rfl, rfl⟩
  · by_cases c2 : r ≤ -500000
    · rw [e, if_neg c1, if_pos c2]
      clear e
      go_enter Try.func4, Try.ntmps4
      go_wp2
      go_ret
      exact ⟨rfl, rfl⟩
    · rw [e, if_neg c1, if_neg c2]
      clear e
      go_enter Try.func4, Try.ntmps4
      go_wp2
      go_ret
      exact ⟨rfl, rfl⟩

theorem ret2_int {a b : Int} {x : Bool} (h : a = b) : Ending.returned (.tuple #[.int .i64 a, .bool x]) = .returned (.tuple #[.int .i64 b, .bool x]) := by rw [h]

set_option maxHeartbeats 1600000 in
/-- zzSignedDiff: neither is negative. -/
theorem sdiff_pos (A B : Nat) (hA : (A : Int) ≤ 18446744073709551615) (h1 : (A : Int) - B ≤ 1000000) (h2 : (B : Int) - A ≤ 1000000) (w : World) :
    Calls Try.prog 6 #[.bool false, .int .u64 A, .bool false, .int .u64 B] w fun e w' => e = .returned (.tuple #[.int .i64 ((A : Int) - B), .bool true]) ∧ w = w' := by
  have h3 : ((A : Int) == 0) = true ∨ ((A : Int) == 0) = false := by cases ((A : Int) == 0) <;> simp
  have h4 : ((B : Int) == 0) = true ∨ ((B : Int) == 0) = false := by cases ((B : Int) == 0) <;> simp
  rcases h3 with h3 | h3 <;> rcases h4 with h4 | h4 <;> by_cases hc : (B : Int) ≤ A
  all_goals
    go_enter Try.func6, Try.ntmps6
    go_wp2
    go_ret2
    exact ⟨ret2_int (by simp at h3 h4; omega), rfl⟩

set_option maxHeartbeats 1600000 in
/-- .. both are. -/
theorem sdiff_neg (A B : Nat) (hA : (A : Int) ≤ 18446744073709551615) (hB : (B : Int) ≤ 18446744073709551615) (a0 : 0 < (A : Int)) (b0 : 0 < (B : Int)) (h1 : (A : Int) - B ≤ 1000000) (h2 : (B : Int) - A ≤ 1000000) (w : World) :
    Calls Try.prog 6 #[.bool true, .int .u64 A, .bool true, .int .u64 B] w fun e w' => e = .returned (.tuple #[.int .i64 ((B : Int) - A), .bool true]) ∧ w = w' := by
  have h3 : ((A : Int) == 0) = false := by simp; omega
  have h4 : ((B : Int) == 0) = false := by simp; omega
  by_cases hc : (B : Int) ≤ A
  all_goals
    go_enter Try.func6, Try.ntmps6
    go_wp2
    go_ret2
    exact ⟨ret2_int (by omega), rfl⟩

set_option maxHeartbeats 1600000 in
/-- .. the first is, the second is nought. -/
theorem sdiff_nought (A : Nat) (a0 : 0 < (A : Int)) (h1 : (A : Int) ≤ 1000000) (w : World) :
    Calls Try.prog 6 #[.bool true, .int .u64 A, .bool false, .int .u64 0] w fun e w' => e = .returned (.tuple #[.int .i64 (-(A : Int)), .bool true]) ∧ w = w' := by
  have h3 : ((A : Int) == 0) = false := by simp; omega
  go_enter Try.func6, Try.ntmps6
  go_wp2
  go_ret2
  exact ⟨ret2_int (by omega), rfl⟩

set_option maxHeartbeats 1600000 in
/-- zzNearestTiesAway: d is not negative. -/
theorem near_pos (A R : Nat) (hA : (A : Int) ≤ 9223372036854775807) (hR : (R : Int) ≤ 9223372036855) (h1 : -500000 ≤ (A : Int) - 1000000 * R) (h2 : (A : Int) - 1000000 * R < 500000) (h3 : (A : Int) - 1000000 * R = -500000 → 0 < A) (w : World) :
    Calls Try.prog 5 #[.int .i64 A, .int .i64 R] w fun e w' => e = .returned (.bool true) ∧ w = w' := by
  have C := sdiff_pos A (R * 1000000) (by omega) (by omega) (by omega)
  rw [show ((R * 1000000 : Nat) : Int) = (R : Int) * 1000000 from by omega] at C
  have a0 : decide ((A : Int) < 0) = false := by simp
  have r0 : decide ((R : Int) < 0) = false := by simp
  obtain ⟨D, hD⟩ : ∃ D, D = (A : Int) - (R : Int) * 1000000 := ⟨_, rfl⟩
  rw [← hD] at C
  have d1 : -500000 ≤ D := by omega
  have d2 : D < 500000 := by omega
  have d3 : D = -500000 → 0 < (A : Int) := by intro h; have := h3 (by omega); omega
  clear h1 h2 h3 hD
  by_cases e : D = -500000
  · have e1 : (D == -500000) = true := by simpa using e
    have e2 := d3 e
    have e3 : decide (0 < A) = true := by simp; omega
    have e4 : decide ((0 : Int) < (A : Int)) = true := by simp; omega
    clear d3 e
    go_enter Try.func5, Try.ntmps5
    go_wp2_with fail
    refine (C _).mono ?_
    rintro e w' ⟨rfl, rfl⟩
    clear C
    go_wp2
    go_ret
    exact ⟨rfl, rfl⟩
  · have e1 : (D == -500000) = false := by simpa using e
    clear d3 e
    go_enter Try.func5, Try.ntmps5
    go_wp2_with fail
    refine (C _).mono ?_
    rintro e w' ⟨rfl, rfl⟩
    clear C
    go_wp2
    go_ret
    exact ⟨rfl, rfl⟩

set_option maxHeartbeats 1600000 in
/-- .. d is negative, the whole number is too. -/
theorem near_neg (A R : Nat) (a1 : 0 < (A : Int)) (hA : (A : Int) ≤ 9223372036854775808) (r1 : 0 < (R : Int)) (hR : (R : Int) ≤ 9223372036855) (h1 : -500000 < 1000000 * (R : Int) - A) (h2 : 1000000 * (R : Int) - A ≤ 500000) (w : World) :
    Calls Try.prog 5 #[.int .i64 (-(A : Int)), .int .i64 (-(R : Int))] w fun e w' => e = .returned (.bool true) ∧ w = w' := by
  have C := sdiff_neg A (R * 1000000) (by omega) (by omega) (by omega) (by omega) (by omega) (by omega)
  rw [show ((R * 1000000 : Nat) : Int) = (R : Int) * 1000000 from by omega] at C
  have a0 : decide (-(A : Int) < 0) = true := by simp; omega
  have r0 : decide (-(R : Int) < 0) = true := by simp; omega
  have a0' : decide (0 < A) = true := by simp; omega
  have r0' : decide (0 < R) = true := by simp; omega
  have ea : IntKind.u64.wrap (-IntKind.u64.wrap (-(A : Int))) = (A : Int) := by rw [IntKind.wrap_u64, IntKind.wrap_u64]; omega
  obtain ⟨D, hD⟩ : ∃ D, D = (R : Int) * 1000000 - (A : Int) := ⟨_, rfl⟩
  rw [← hD] at C
  have d1 : -500000 < D := by omega
  have d2 : D ≤ 500000 := by omega
  clear h1 h2 hD
  have e1 : (D == 500000) = true ∨ (D == 500000) = false := by cases (D == 500000) <;> simp
  rcases e1 with e1 | e1
  all_goals
    go_enter Try.func5, Try.ntmps5
    go_wp2_with fail
    refine (C _).mono ?_
    rintro e w' ⟨rfl, rfl⟩
    clear C
    go_wp2
    go_ret
    exact ⟨rfl, rfl⟩

set_option maxHeartbeats 1600000 in
/-- .. d is negative, the whole number is nought. -/
theorem near_nought (A : Nat) (a1 : 0 < (A : Int)) (h2 : (A : Int) < 500000) (w : World) :
    Calls Try.prog 5 #[.int .i64 (-(A : Int)), .int .i64 0] w fun e w' => e = .returned (.bool true) ∧ w = w' := by
  have C := sdiff_nought A a1 (by omega)
  have a0 : decide (-(A : Int) < 0) = true := by simp; omega
  have a0' : decide (0 < A) = true := by simp; omega
  have ea : IntKind.u64.wrap (-IntKind.u64.wrap (-(A : Int))) = (A : Int) := by rw [IntKind.wrap_u64, IntKind.wrap_u64]; omega
  obtain ⟨D, hD⟩ : ∃ D, D = -(A : Int) := ⟨_, rfl⟩
  rw [← hD] at C
  have d1 : -500000 < D := by omega
  have d2 : D < 0 := by omega
  clear hD h2
  go_enter Try.func5, Try.ntmps5
  go_wp2_with fail
  refine (C _).mono ?_
  rintro e w' ⟨rfl, rfl⟩
  clear C
  go_wp2
  go_ret
  exact ⟨rfl, rfl⟩

/-- zzNearestTiesAway at Round's answer. -/
theorem near_any (d : Int) (h1 : -9223372036854775808 ≤ d) (h2 : d ≤ 9223372036854775807) (w : World) :
    Calls Try.prog 5 #[.int .i64 d, .int .i64 (rnd d)] w fun e w' => e = .returned (.bool true) ∧ w = w' := by
  obtain ⟨n1, n2, n3, n4⟩ := rnd_near d
  obtain ⟨b1, b2⟩ := rnd_bd h1 h2
  obtain ⟨r, hr⟩ : ∃ r, r = rnd d := ⟨_, rfl⟩
  rw [← hr] at n1 n2 n3 n4 b1 b2 ⊢
  clear hr
  by_cases hd : d < 0
  · obtain ⟨A, hA⟩ := Int.eq_ofNat_of_zero_le (show 0 ≤ -d by omega)
    obtain rfl : d = -(A : Int) := by omega
    by_cases h0 : r = 0
    · subst h0
      exact near_nought A (by omega) (by omega) w
    · obtain ⟨R, hR⟩ := Int.eq_ofNat_of_zero_le (show 0 ≤ -r by omega)
      obtain rfl : r = -(R : Int) := by omega
      exact near_neg A R (by omega) (by omega) (by omega) (by omega) (by omega) (by omega) w
  · obtain ⟨A, rfl⟩ := Int.eq_ofNat_of_zero_le (show 0 ≤ d by omega)
    obtain ⟨R, rfl⟩ := Int.eq_ofNat_of_zero_le (show 0 ≤ r by omega)
    exact near_pos A R (by omega) (by omega) (by omega) (by omega) (by omega) w

set_option maxHeartbeats 800000 in
theorem law (d : Int) (h1 : -9223372036854775808 ≤ d) (h2 : d ≤ 9223372036854775807) (w : World) :
    Calls Try.prog 3 #[.int .i64 d] w fun e w' => e = .returned (.bool true) ∧ w = w' := by
  have C1 := round_any d h1 h2
  have C2 := near_any d h1 h2
  obtain ⟨b1, b2⟩ := rnd_bd h1 h2
  by_cases hm : d = -9223372036854775808
  · have hm' : (d == -9223372036854775808) = true := by simpa using hm
    clear hm
    obtain ⟨r, hr⟩ : ∃ r, r = rnd d := ⟨_, rfl⟩
    rw [← hr] at C1 C2 b1 b2
    clear hr
    go_enter Try.func3, Try.ntmps3
    go_wp2_with fail
    refine (C1 _).mono ?_
    rintro e w' ⟨rfl, rfl⟩
    go_wp2_with fail
    refine (C2 _).mono ?_
    rintro e w' ⟨rfl, rfl⟩
    clear C1 C2
    go_wp2
    go_ret
    exact ⟨rfl, rfl⟩
  · have hm' : (d == -9223372036854775808) = false := by simpa using hm
    have C3 := round_any (-d) (by omega) (by omega)
    rw [rnd_neg] at C3
    have hlo : -9223372036854775807 ≤ d := by omega
    clear hm
    obtain ⟨r, hr⟩ : ∃ r, r = rnd d := ⟨_, rfl⟩
    rw [← hr] at C1 C2 C3 b1 b2
    clear hr
    go_enter Try.func3, Try.ntmps3
    go_wp2_with fail
    refine (C1 _).mono ?_
    rintro e w' ⟨rfl, rfl⟩
    go_wp2_with fail
    refine (C2 _).mono ?_
    rintro e w' ⟨rfl, rfl⟩
    go_wp2_with fail
    refine (C3 _).mono ?_
    rintro e w' ⟨rfl, rfl⟩
    clear C1 C2 C3
    go_wp2
    go_ret
    exact ⟨rfl, rfl⟩
end Go.Proofs.Qxb6617870a
