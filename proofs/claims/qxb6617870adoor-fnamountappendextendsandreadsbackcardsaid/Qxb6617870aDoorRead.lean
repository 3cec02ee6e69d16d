/- zzReadAmount (7), over a text that is canonical. -/
import Derived.Test.Qxb6617870aDoorRows
import Derived.WalkKit
import Derived.WalkSpells
import Derived.WalkLawsBesides
import Derived.Deep.QuietTactic
import Derived.BigQuiet
import Derived.OwnWalk
namespace Go.Proofs.Qxb6617870aDoor
open Go.RowKit

structure Hid (p : Prop) : Prop where
  out : p

/-- The text's digits: nd bytes B, their value up to place t: V t. -/
structure Digs (nd : Nat) (B V : Nat → Nat) : Prop where
  pos : 1 ≤ nd
  le : nd ≤ 17
  lo : ∀ t, t < nd → 48 ≤ B t
  hi : ∀ t, t < nd → B t ≤ 57
  v0 : V 0 = 0
  vs : ∀ t, t < nd → V (t + 1) = V t * 10 + (B t - 48)
  vb : ∀ t, t ≤ nd → V t < 100000000000000000
  lead : 1 < nd → B 0 ≠ 48

theorem ret3 {a b : Bool} {x y : Int} (h : x = y) : Ending.returned (.tuple #[.bool a, .int .u64 x, .bool b]) = .returned (.tuple #[.bool a, .int .u64 y, .bool b]) := by rw [h]
set_option maxHeartbeats 1600000 in
set_option maxRecDepth 100000 in
theorem read_pos (nd : Nat) (B V : Nat → Nat) (c1 c2 : Nat) (q off cap : Nat) (w : World) (hD : Digs nd B V) (h1 : 48 ≤ c1) (h1' : c1 ≤ 57) (h2 : 48 ≤ c2) (h2' : c2 ≤ 57)
    (hB : ∀ t, t < nd → w.cell? ⟨q, off + t, none⟩ = some (.int .u8 (B t))) (hp : w.cell? ⟨q, off + nd, none⟩ = some (.int .u8 46)) (hc1 : w.cell? ⟨q, off + (nd + 1), none⟩ = some (.int .u8 c1)) (hc2 : w.cell? ⟨q, off + (nd + 2), none⟩ = some (.int .u8 c2)) :
    Calls Tryd.prog 7 #[.slice (some ⟨q, off, none⟩) (nd + 3) cap] w fun e w' => e = .returned (.tuple #[.bool false, .int .u64 ((V nd * 100 + (c1 - 48) * 10 + (c2 - 48) : Nat) : Int), .bool true]) ∧ w = w' := by
  have HD : Hid (Digs nd B V) := ⟨hD⟩
  have HB : Hid (∀ t, t < nd → w.cell? ⟨q, off + t, none⟩ = some (.int .u8 (B t))) := ⟨hB⟩
  have n1 := hD.pos
  have n2 := hD.le
  have b0 := hB 0 (by omega)
  rw [Nat.add_zero] at b0
  have b1 := hD.lo 0 (by omega)
  have b2 := hD.hi 0 (by omega)
  have b3 := hD.lead
  have v0 := hD.v0
  obtain ⟨x, hx⟩ : ∃ x, x = B 0 := ⟨_, rfl⟩
  rw [← hx] at b0 b1 b2 b3
  clear hD hB hx
  have e1' : ((x : Int) == 45) = false := by simp; omega
  go_enter Tryd.func7, Tryd.ntmps7
  go_wp2
  go_loopw [5, 8] (fun i v wr => ∃ k : Nat, k ≤ nd ∧ i = .int .i64 (k : Int) ∧ v = .int .u64 (V k : Int) ∧ w = wr) (fun i _ _ => nd + 1 - (intOf i).toNat)
  case atStart => exact ⟨0, Nat.zero_le _, rfl, by rw [v0]; rfl, rfl⟩
  case round =>
    obtain ⟨k, hk, rfl, rfl, rfl⟩ := hrel
    by_cases hlt : k < nd
    · have d0 := HB.out k hlt
      have d1 := HD.out.lo k hlt
      have d2 := HD.out.hi k hlt
      have d3 := HD.out.vs k hlt
      have d4 := HD.out.vb k (by omega)
      obtain ⟨y, hy⟩ : ∃ y, y = B k := ⟨_, rfl⟩
      obtain ⟨u, hu⟩ : ∃ u, u = V k := ⟨_, rfl⟩
      rw [← hy] at d0 d1 d2 d3
      rw [← hu] at d3 d4 ⊢
      have D3 : Hid (V (k + 1) = u * 10 + (y - 48)) := ⟨d3⟩
      have hk17 : (k : Int) < 17 := by omega
      have hkn : (k : Int) < (nd : Int) := by omega
      clear d3 hy hu
      go_wp2
      go_roundw
      case rel => exact ⟨k + 1, by omega, by go_num, by rw [D3.out]; go_num, by simp⟩
      case measure => simp [intOf]; omega
    · obtain rfl : k = nd := by omega
      have d4 := HD.out.vb k (Nat.le_refl _)
      obtain ⟨u, hu⟩ : ∃ u, u = V k := ⟨_, rfl⟩
      rw [← hu] at d4 ⊢
      clear hlt hk HB
      by_cases hk1 : 1 < k
      · have b4 := b3 hk1
        have e2 : ((x : Int) == 48) = false := by simp; omega
        have hk1' : (1 : Int) < (k : Int) := by omega
        go_wp2
        go_ret3
        exact ⟨ret3 (by omega), rfl⟩
      · obtain rfl : k = 1 := by omega
        go_wp2
        go_ret3
        exact ⟨ret3 (by omega), rfl⟩

set_option maxHeartbeats 1600000 in
set_option maxRecDepth 100000 in
theorem read_neg (nd : Nat) (B V : Nat → Nat) (c1 c2 : Nat) (q off cap : Nat) (w : World) (hD : Digs nd B V) (h1 : 48 ≤ c1) (h1' : c1 ≤ 57) (h2 : 48 ≤ c2) (h2' : c2 ≤ 57) (hm : w.cell? ⟨q, off, none⟩ = some (.int .u8 45)) (hnz : V nd * 100 + (c1 - 48) * 10 + (c2 - 48) ≠ 0)
    (hB : ∀ t, t < nd → w.cell? ⟨q, off + (t + 1), none⟩ = some (.int .u8 (B t))) (hp : w.cell? ⟨q, off + (nd + 1), none⟩ = some (.int .u8 46)) (hc1 : w.cell? ⟨q, off + (nd + 2), none⟩ = some (.int .u8 c1)) (hc2 : w.cell? ⟨q, off + (nd + 3), none⟩ = some (.int .u8 c2)) :
    Calls Tryd.prog 7 #[.slice (some ⟨q, off, none⟩) (nd + 4) cap] w fun e w' => e = .returned (.tuple #[.bool true, .int .u64 ((V nd * 100 + (c1 - 48) * 10 + (c2 - 48) : Nat) : Int), .bool true]) ∧ w = w' := by
  have HD : Hid (Digs nd B V) := ⟨hD⟩
  have HB : Hid (∀ t, t < nd → w.cell? ⟨q, off + (t + 1), none⟩ = some (.int .u8 (B t))) := ⟨hB⟩
  have n1 := hD.pos
  have n2 := hD.le
  have b0 := hB 0 (by omega)
  rw [Nat.zero_add] at b0
  have b1 := hD.lo 0 (by omega)
  have b2 := hD.hi 0 (by omega)
  have b3 := hD.lead
  have v0 := hD.v0
  obtain ⟨x, hx⟩ : ∃ x, x = B 0 := ⟨_, rfl⟩
  rw [← hx] at b0 b1 b2 b3
  clear hD hB hx
  have e1' : ((x : Int) == 45) = false := by simp; omega
  have HNZ : Hid (V nd * 100 + (c1 - 48) * 10 + (c2 - 48) ≠ 0) := ⟨hnz⟩
  clear hnz
  go_enter Tryd.func7, Tryd.ntmps7
  go_wp2
  go_loopw [5, 8] (fun i v wr => ∃ k : Nat, k ≤ nd ∧ i = .int .i64 ((k + 1 : Nat) : Int) ∧ v = .int .u64 (V k : Int) ∧ w = wr) (fun i _ _ => nd + 1 - (intOf i).toNat)
  case atStart => exact ⟨0, Nat.zero_le _, rfl, by rw [v0]; rfl, rfl⟩
  case round =>
    obtain ⟨k, hk, rfl, rfl, rfl⟩ := hrel
    by_cases hlt : k < nd
    · have d0 := HB.out k hlt
      have d1 := HD.out.lo k hlt
      have d2 := HD.out.hi k hlt
      have d3 := HD.out.vs k hlt
      have d4 := HD.out.vb k (by omega)
      obtain ⟨y, hy⟩ : ∃ y, y = B k := ⟨_, rfl⟩
      obtain ⟨u, hu⟩ : ∃ u, u = V k := ⟨_, rfl⟩
      rw [← hy] at d0 d1 d2 d3
      rw [← hu] at d3 d4 ⊢
      have D3 : Hid (V (k + 1) = u * 10 + (y - 48)) := ⟨d3⟩
      have hk17 : (k : Int) < 17 := by omega
      have hkn : (k : Int) < (nd : Int) := by omega
      clear d3 hy hu
      go_wp2
      go_roundw
      case rel => exact ⟨k + 1, by omega, by go_num, by rw [D3.out]; go_num, by simp⟩
      case measure => simp [intOf]; omega
    · obtain rfl : k = nd := by omega
      have d4 := HD.out.vb k (Nat.le_refl _)
      obtain ⟨u, hu⟩ : ∃ u, u = V k := ⟨_, rfl⟩
      rw [← hu] at d4 ⊢
      clear hlt hk HB
      have e3 : (((u : Int) * 100 + ((c1 : Int) - 48) * 10 + ((c2 : Int) - 48)) == 0) = false := by have := HNZ.out; rw [← hu] at this; simp; omega
      by_cases hk1 : 1 < k
      · have b4 := b3 hk1
        have e2 : ((x : Int) == 48) = false := by simp; omega
        have hk1' : (1 : Int) < (k : Int) := by omega
        go_wp2
        go_ret3
        exact ⟨ret3 (by omega), rfl⟩
      · obtain rfl : k = 1 := by omega
        go_wp2
        go_ret3
        exact ⟨ret3 (by omega), rfl⟩

end Go.Proofs.Qxb6617870aDoor
