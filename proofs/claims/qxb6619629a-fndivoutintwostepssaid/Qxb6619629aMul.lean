/- zzMulU (8): the full product of two 64-bit words, after the library's own proof for the same school method. -/
import Derived.Test.Qxb6619629aRows
import Derived.WalkKit
import Derived.WalkSpells
import Derived.WalkLawsBesides
import Derived.Lib.Mul64
import Derived.Laws.Bits64b
import Derived.Deep.QuietTactic
import Derived.BigQuiet
namespace Go.Proofs.Qxb6619629a
open Go.RowKit Go.Lib

theorem maskN (a : Nat) (ha : a < 18446744073709551616) : bits .and .u64 (a : Int) 4294967295 = ((a % 4294967296 : Nat) : Int) := by
  have h := bits_and_u64_nat a 4294967295 ha (by omega)
  have e : a &&& 4294967295 = a % 4294967296 := Nat.and_two_pow_sub_one_eq_mod a 32
  rw [e] at h
  exact h
theorem divN (a : Nat) : (a : Int) / 4294967296 = ((a / 4294967296 : Nat) : Int) := by omega
theorem mulN (a b : Nat) : (a : Int) * (b : Int) = ((a * b : Nat) : Int) := (Int.natCast_mul a b).symm
theorem addN (a b : Nat) : (a : Int) + (b : Int) = ((a + b : Nat) : Int) := (Int.natCast_add a b).symm
theorem wrapN (a : Nat) (ha : a < 18446744073709551616) : IntKind.u64.wrap (a : Int) = (a : Int) := by rw [IntKind.wrap_u64]; omega
theorem wrapM (a : Nat) : IntKind.u64.wrap (a : Int) = ((a % 18446744073709551616 : Nat) : Int) := by rw [IntKind.wrap_u64]; omega

set_option maxHeartbeats 1000000 in
theorem mulU (x y : Nat) (hx : x < 18446744073709551616) (hy : y < 18446744073709551616) (w : World) :
    Calls Try.prog 8 #[.int .u64 x, .int .u64 y] w fun e w' => e = .returned (.tuple #[.int .u64 ((x * y / 18446744073709551616 : Nat) : Int), .int .u64 ((x * y % 18446744073709551616 : Nat) : Int)]) ∧ w = w' := by
  obtain ⟨bd, bt, bw, hhi⟩ := Lib.mul64_hi x y hx hy
  have ba := Lib.half_mul_le (a := x / 4294967296) (b := y / 4294967296) (by omega) (by omega)
  have bb := Lib.half_mul_le (a := x / 4294967296) (b := y % 4294967296) (by omega) (by omega)
  have bc := Lib.half_mul_le (a := x % 4294967296) (b := y / 4294967296) (by omega) (by omega)
  have ba' : x / 4294967296 * (y / 4294967296) < 18446744073709551616 := by omega
  have bb' : x / 4294967296 * (y % 4294967296) < 18446744073709551616 := by omega
  have bc' : x % 4294967296 * (y / 4294967296) < 18446744073709551616 := by omega
  have bh1 : x / 4294967296 * (y / 4294967296) + (x / 4294967296 * (y % 4294967296) + x % 4294967296 * (y % 4294967296) / 4294967296) / 4294967296 < 18446744073709551616 := by omega
  have bh : x / 4294967296 * (y / 4294967296) + (x / 4294967296 * (y % 4294967296) + x % 4294967296 * (y % 4294967296) / 4294967296) / 4294967296 + ((x / 4294967296 * (y % 4294967296) + x % 4294967296 * (y % 4294967296) / 4294967296) % 4294967296 + x % 4294967296 * (y / 4294967296)) / 4294967296 < 18446744073709551616 := by omega
  go_enter Try.func8, Try.ntmps8
  go_wp2
  simp only [maskN x hx, maskN y hy, divN, mulN, addN, wrapN _ bd, wrapN _ bb', wrapN _ bt, maskN _ bt, wrapN _ bc', wrapN _ bw, wrapN _ ba', wrapN _ bh1, wrapN _ bh, wrapM (x * y)]
  rw [hhi]
  go_ret2
  exact ⟨rfl, rfl⟩

/-! ### Plain arithmetic: a quotient without rest -/
theorem quot_bd {a g x : Int} (hg : 1 ≤ g) (h : a * g = x) (h1 : -9223372036854775808 ≤ x) (h2 : x ≤ 9223372036854775807) : -9223372036854775808 ≤ a ∧ a ≤ 9223372036854775807 ∧ (0 ≤ x → 0 ≤ a) ∧ (x < 0 → a < 0) := by
  have key : ∀ b : Int, 0 ≤ b → b ≤ b * g := fun b hb => by
    have := Int.mul_le_mul_of_nonneg_left hg hb
    simpa using this
  by_cases ha : a < 0
  · have k := key (-a) (by omega)
    rw [Int.neg_mul, h] at k
    have hx : x < 0 := by omega
    exact ⟨by omega, by omega, by omega, by omega⟩
  · have k := key a (by omega)
    rw [h] at k
    exact ⟨by omega, by omega, by omega, by omega⟩
theorem quot_of {x g : Int} (h : x.tmod g = 0) : x.tdiv g * g = x := by
  have := Int.mul_tdiv_add_tmod x g
  rw [h, Int.mul_comm] at this
  omega
theorem tdiv_of {a g x : Int} (hg : 1 ≤ g) (h : a * g = x) : x.tdiv g = a := by
  rw [← h]
  exact Int.mul_tdiv_cancel a (by omega)

/-- divOut (12), ZZdivOut (6): g divides both. -/
theorem divOut_any (a b x y g : Int) (h0 : 1 ≤ g) (hx : a * g = x) (hy : b * g = y) (x1 : -9223372036854775808 ≤ x) (x2 : x ≤ 9223372036854775807) (y1 : -9223372036854775808 ≤ y) (y2 : y ≤ 9223372036854775807) (w : World) :
    Calls Try.prog 6 #[.int .i64 x, .int .i64 y, .int .i64 g] w fun e w' => e = .returned (.tuple #[.int .i64 a, .int .i64 b]) ∧ ∃ m, w' = w.drewN m := by
  by_cases hg : g = 1
  · subst hg
    have hxa : a = x := by omega
    have hyb : b = y := by omega
    subst hxa hyb
    clear hx hy
    go_enter Try.func6, Try.ntmps6
    go_wp2
    go_ret2
    exact ⟨rfl, 0, rfl⟩
  · have hg1 : (g == 1) = false := by simpa using hg
    have ea : wrap64 (x.tdiv g) = a := by
      obtain ⟨q1, q2, _⟩ := quot_bd h0 hx x1 x2
      rw [tdiv_of h0 hx, IntWalk.wrap64_in a ⟨q1, q2⟩]
    have eb : wrap64 (y.tdiv g) = b := by
      obtain ⟨q1, q2, _⟩ := quot_bd h0 hy y1 y2
      rw [tdiv_of h0 hy, IntWalk.wrap64_in b ⟨q1, q2⟩]
    have HA : Hid (wrap64 (x.tdiv g) = a ∧ wrap64 (y.tdiv g) = b) := ⟨ea, eb⟩
    have h0' : 0 < g := by omega
    clear hx hy ea eb hg x1 x2 y1 y2
    go_enter Try.func6, Try.ntmps6
    go_wp2
    go_quiet (fail)
    go_wp2
    go_ret2
    refine ⟨?_, _, rfl⟩
    obtain ⟨ea, eb⟩ := HA.out
    show Ending.returned (.tuple #[.int .i64 (wrap64 (x.tdiv g)), .int .i64 (wrap64 (y.tdiv g))]) = _
    rw [ea, eb]

/-- zzExactProduct (7), the quotient not negative. -/
theorem exact_pos (q g : Nat) (hq : q * g ≤ 9223372036854775807) (bq : q ≤ 9223372036854775807) (bg : g ≤ 9223372036854775807) (w : World) :
    Calls Try.prog 7 #[.int .i64 q, .int .i64 g, .int .i64 ((q * g : Nat) : Int)] w fun e w' => e = .returned (.bool true) ∧ w = w' := by
  have C := mulU q g (by omega) (by omega)
  have e1 : q * g / 18446744073709551616 = 0 := Nat.div_eq_of_lt (by omega)
  have e2 : q * g % 18446744073709551616 = q * g := Nat.mod_eq_of_lt (by omega)
  rw [e1, e2] at C
  clear e1 e2
  go_enter Try.func7, Try.ntmps7
  go_wp2_with (go_at_call 8; refine (C _).mono ?_; rintro e w' ⟨rfl, rfl⟩)
  go_ret
  exact ⟨rfl, rfl⟩

/-- .. the quotient negative. -/
theorem exact_neg (m g : Nat) (hm : 0 < m) (hg : 0 < g) (hq : m * g ≤ 9223372036854775808) (bq : m ≤ 9223372036854775808) (bg : g ≤ 9223372036854775807) (w : World) :
    Calls Try.prog 7 #[.int .i64 (-(m : Int)), .int .i64 g, .int .i64 (-((m * g : Nat) : Int))] w fun e w' => e = .returned (.bool true) ∧ w = w' := by
  have C := mulU m g (by omega) (by omega)
  have e1 : m * g / 18446744073709551616 = 0 := Nat.div_eq_of_lt (by omega)
  have e2 : m * g % 18446744073709551616 = m * g := Nat.mod_eq_of_lt (by omega)
  rw [e1, e2] at C
  clear e1 e2
  have hneg : -(m : Int) < 0 := by omega
  go_enter Try.func7, Try.ntmps7
  go_wp2_with fail
  rw [show IntKind.u64.wrap (-IntKind.u64.wrap (-(m : Int))) = (m : Int) from by rw [IntKind.wrap_u64, IntKind.wrap_u64]; omega]
  refine (C _).mono ?_
  rintro e w' ⟨rfl, rfl⟩
  have e3 : wrap64 (-(m : Int) * (g : Int)) = -((m : Int) * (g : Int)) := by
    rw [Int.neg_mul, ← Int.natCast_mul]
    exact IntWalk.wrap64_in _ ⟨by omega, by omega⟩
  have e4 : wrap64 (-((m : Int) * (g : Int))) = -((m : Int) * (g : Int)) := by
    rw [← Int.natCast_mul]
    exact IntWalk.wrap64_in _ ⟨by omega, by omega⟩
  go_wp2
  go_ret
  exact ⟨rfl, rfl⟩

theorem exact_any (q g x : Int) (hg : 1 ≤ g) (bg : g ≤ 9223372036854775807) (h : q * g = x) (x1 : -9223372036854775808 ≤ x) (x2 : x ≤ 9223372036854775807) (w : World) :
    Calls Try.prog 7 #[.int .i64 q, .int .i64 g, .int .i64 x] w fun e w' => e = .returned (.bool true) ∧ w = w' := by
  obtain ⟨b1, b2, p1, p2⟩ := quot_bd hg h x1 x2
  obtain ⟨k, rfl⟩ := Int.eq_ofNat_of_zero_le (show 0 ≤ g by omega)
  by_cases hq : q < 0
  · obtain ⟨m, hm⟩ := Int.eq_ofNat_of_zero_le (show 0 ≤ -q by omega)
    obtain rfl : q = -(m : Int) := by omega
    have e : -(m : Int) * (k : Int) = -((m * k : Nat) : Int) := by rw [Int.neg_mul, Int.natCast_mul]
    rw [e] at h
    subst h
    exact exact_neg m k (by omega) (by omega) (by omega) (by omega) (by omega) w
  · obtain ⟨m, rfl⟩ := Int.eq_ofNat_of_zero_le (show 0 ≤ q by omega)
    rw [← Int.natCast_mul] at h
    subst h
    exact exact_pos m k (by omega) (by omega) (by omega) w
end Go.Proofs.Qxb6619629a
