/- FnSections..: zzB1HeadsValid (12). -/
import Derived.Test.Qxb6619209aSecSize
namespace Go.Proofs.Qxb6619209a
open Go.RowKit

/-- A slice of ints: empty, or its elements lie from ⟨b, off⟩ on. -/
def IntSl (w : World) (a : Option Addr) (n : Nat) (Z : Nat → Int) : Prop :=
  n = 0 ∨ ∃ b off, a = some ⟨b, off, none⟩ ∧ ∀ i, i < n → w.cell? ⟨b, off + i, none⟩ = some (.int .i64 (Z i))

theorem IntSl.pos {w : World} {a : Option Addr} {n : Nat} {Z : Nat → Int} (h : IntSl w a n Z) (hn : 0 < n) : ∃ b off, a = some ⟨b, off, none⟩ ∧ ∀ i, i < n → w.cell? ⟨b, off + i, none⟩ = some (.int .i64 (Z i)) := by
  rcases h with rfl | h
  · omega
  · exact h

/-- The reader's domain: strictly increasing indices of lines, the first at least -1. -/
def ValidH (n : Nat) (m : Nat) (Z : Nat → Int) : Prop :=
  ∀ i, i < n → Z i < m ∧ (i = 0 → -1 ≤ Z i) ∧ (0 < i → Z (i - 1) < Z i)

/-- The answer: a bool; where it says true the heads are valid. -/
def Tells (p : Prop) (e : Ending) : Prop := ∃ b, e = .returned (.bool b) ∧ (b = true → p)
theorem tells_no {p : Prop} : Tells p (.returned (.bool false)) := ⟨false, rfl, fun h => by cases h⟩
theorem tells_yes {p : Prop} (h : p) : Tells p (.returned (.bool true)) := ⟨true, rfl, fun _ => h⟩

set_option maxHeartbeats 800000 in
theorem headsValid_any (a : Option Addr) (n cap m : Nat) (Z : Nat → Int) (w : World) (hn : n ≤ 9223372036854775807) (hs : IntSl w a n Z) :
    Calls Try.prog 12 #[.slice a n cap, .int .i64 m] w fun e w' => Tells (ValidH n m Z) e ∧ w = w' := by
  have HS : Hid (IntSl w a n Z) := hs
  clear hs
  go_enter Try.func12, Try.ntmps12
  go_wp2
  go_loop [5] (fun i => ∃ k : Nat, k ≤ n ∧ ValidH k m Z ∧ i = .int .i64 k) (fun i => n - (intOf i).toNat)
  case atStart => exact ⟨0, Nat.zero_le _, fun i hi => by omega, rfl⟩
  case round =>
    obtain ⟨k, hk, hv, rfl⟩ := hrel
    have HV : Hid (ValidH k m Z) := hv
    clear hv
    by_cases hlt : k < n
    · obtain ⟨b, off, rfl, hc⟩ := HS.out.pos (by omega)
      have ck := hc k hlt
      obtain ⟨z, hz⟩ : ∃ z, z = Z k := ⟨_, rfl⟩
      rw [← hz] at ck
      by_cases hm : (m : Int) ≤ z
      · clear hc HS HV hz
        go_wp2
        go_ret; exact ⟨tells_no, rfl⟩
      by_cases h0 : k = 0
      · have hb : ((k : Int) == 0) = true := by simp [h0]
        by_cases hl : z < -1
        · clear hc HS HV hz h0
          go_wp2
          go_ret; exact ⟨tells_no, rfl⟩
        · have HN : Hid (ValidH (k + 1) m Z) := by
            intro i hi
            obtain rfl : i = k := by omega
            rw [← hz]
            exact ⟨by omega, fun _ => by omega, fun _ => by omega⟩
          clear hc HS HV hz h0
          go_wp2
          go_round
          case rel => exact ⟨k + 1, by omega, HN.out, by go_num⟩
          case measure => simp [intOf]; omega
      · have hb : ((k : Int) == 0) = false := by simpa using h0
        have cp := hc (k - 1) (by omega)
        obtain ⟨y, hy⟩ : ∃ y, y = Z (k - 1) := ⟨_, rfl⟩
        rw [← hy] at cp
        have hpos : 1 ≤ k := by omega
        by_cases hl : z ≤ y
        · clear hc HS HV hz hy h0
          go_wp2
          go_ret; exact ⟨tells_no, rfl⟩
        · have HN : Hid (ValidH (k + 1) m Z) := by
            intro i hi
            by_cases e : i = k
            · subst e
              rw [← hz, ← hy]
              exact ⟨by omega, fun _ => by omega, fun _ => by omega⟩
            · exact HV.out i (by omega)
          clear hc HS HV hz hy h0
          go_wp2
          go_round
          case rel => exact ⟨k + 1, by omega, HN.out, by go_num⟩
          case measure => simp [intOf]; omega
    · obtain rfl : k = n := by omega
      go_wp2
      go_ret; exact ⟨tells_yes HV.out, rfl⟩
end Go.Proofs.Qxb6619209a
