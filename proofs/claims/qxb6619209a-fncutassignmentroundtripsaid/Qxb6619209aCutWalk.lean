/- srcinfo.cutAssignment (22), srcinfo.ZZcutAssignment (8). -/
import Derived.Test.Qxb6619209aCutEq
namespace Go.Proofs.Qxb6619209a
open Go.RowKit

set_option maxHeartbeats 800000 in
theorem cut_full (b kn vn : Nat) (z : Nat → Int) (w : World) (hs : kn + 3 + vn ≤ 4611686018427387904)
    (hc : ∀ i, i < kn + 3 + vn → w.cell? ⟨b, i, none⟩ = some (.int .u8 (z i)))
    (hk : ∀ i, i < kn → z i ≠ 32 ∧ z i ≠ 9 ∧ z i ≠ 61) (h0 : z kn = 32) (h1 : z (kn + 1) = 61) (h2 : z (kn + 2) = 32) :
    Calls Try.prog 22 #[.slice (some ⟨b, 0, none⟩) (kn + 3 + vn) (kn + 3 + vn)] w fun e w' =>
      ∃ off, e = .returned (.tuple #[.slice (some ⟨b, 0, none⟩) kn (kn + 3 + vn), .slice (some ⟨b, off, none⟩) vn vn, .bool true]) ∧ (0 < vn → off = kn + 3) ∧ ∃ m, w' = w.drewN m := by
  have c0 := hc kn (by omega)
  have c1 := hc (kn + 1) (by omega)
  have c2 := hc (kn + 2) (by omega)
  rw [h0] at c0; rw [h1] at c1; rw [h2] at c2
  clear h0 h1 h2
  go_enter Try.func22, Try.ntmps22
  go_wp2
  go_loop [5] (fun i => ∃ k : Nat, k ≤ kn ∧ i = .int .i64 k) (fun i => kn - (intOf i).toNat)
  case atStart => exact ⟨0, Nat.zero_le _, rfl⟩
  case round =>
    obtain ⟨k, hle, rfl⟩ := hrel
    by_cases hlt : k < kn
    · obtain ⟨n1, n2, n3⟩ := hk k hlt
      have m1 : (z k != 32) = true := by simpa using n1
      have m2 : (z k != 9) = true := by simpa using n2
      have m3 : (z k != 61) = true := by simpa using n3
      clear n1 n2 n3
      have hck := hc k (by omega)
      clear hc hk
      go_wp2
      go_round
      case rel => exact ⟨k + 1, by omega, by go_num⟩
      case measure => simp [intOf]; omega
    · obtain rfl : k = kn := by omega
      clear hc hk
      go_wp2
      go_quiet (fail)
      go_wp2
      all_goals (go_quiet (fail))
      all_goals go_wp2
      all_goals
        go_ret3
        first
          | (rw [show k + 3 + vn - (k + 2) - 1 = vn from by omega]; exact ⟨_, rfl, by omega, _, rfl⟩)
          | (obtain rfl : vn = 0 := by omega
             exact ⟨_, rfl, by omega, _, rfl⟩)

set_option maxHeartbeats 800000 in
theorem cut_bare (b kn : Nat) (z : Nat → Int) (w : World) (hs : kn + 2 ≤ 4611686018427387904)
    (hc : ∀ i, i < kn + 2 → w.cell? ⟨b, i, none⟩ = some (.int .u8 (z i)))
    (hk : ∀ i, i < kn → z i ≠ 32 ∧ z i ≠ 9 ∧ z i ≠ 61) (h0 : z kn = 32) (h1 : z (kn + 1) = 61) :
    Calls Try.prog 22 #[.slice (some ⟨b, 0, none⟩) (kn + 2) (kn + 2)] w fun e w' =>
      e = .returned (.tuple #[.slice (some ⟨b, 0, none⟩) kn (kn + 2), .slice none 0 0, .bool true]) ∧ ∃ m, w' = w.drewN m := by
  have c0 := hc kn (by omega)
  have c1 := hc (kn + 1) (by omega)
  rw [h0] at c0; rw [h1] at c1
  clear h0 h1
  go_enter Try.func22, Try.ntmps22
  go_wp2
  go_loop [5] (fun i => ∃ k : Nat, k ≤ kn ∧ i = .int .i64 k) (fun i => kn - (intOf i).toNat)
  case atStart => exact ⟨0, Nat.zero_le _, rfl⟩
  case round =>
    obtain ⟨k, hle, rfl⟩ := hrel
    by_cases hlt : k < kn
    · obtain ⟨n1, n2, n3⟩ := hk k hlt
      have m1 : (z k != 32) = true := by simpa using n1
      have m2 : (z k != 9) = true := by simpa using n2
      have m3 : (z k != 61) = true := by simpa using n3
      clear n1 n2 n3
      have hck := hc k (by omega)
      clear hc hk
      go_wp2
      go_round
      case rel => exact ⟨k + 1, by omega, by go_num⟩
      case measure => simp [intOf]; omega
    · obtain rfl : k = kn := by omega
      clear hc hk
      go_wp2
      go_quiet (fail)
      go_wp2
      all_goals
        go_ret3
        exact ⟨rfl, _, rfl⟩

set_option maxHeartbeats 400000 in
theorem zcut_full (b kn vn : Nat) (z : Nat → Int) (w : World) (hs : kn + 3 + vn ≤ 4611686018427387904)
    (hc : ∀ i, i < kn + 3 + vn → w.cell? ⟨b, i, none⟩ = some (.int .u8 (z i)))
    (hk : ∀ i, i < kn → z i ≠ 32 ∧ z i ≠ 9 ∧ z i ≠ 61) (h0 : z kn = 32) (h1 : z (kn + 1) = 61) (h2 : z (kn + 2) = 32) :
    Calls Try.prog 8 #[.slice (some ⟨b, 0, none⟩) (kn + 3 + vn) (kn + 3 + vn)] w fun e w' =>
      ∃ off, e = .returned (.tuple #[.slice (some ⟨b, 0, none⟩) kn (kn + 3 + vn), .slice (some ⟨b, off, none⟩) vn vn, .bool true]) ∧ (0 < vn → off = kn + 3) ∧ ∃ m, w' = w.drewN m := by
  have C := cut_full b kn vn z w hs hc hk h0 h1 h2
  clear hc hk h0 h1 h2
  go_enter Try.func8, Try.ntmps8
  go_wp2_with (go_at_call 22; refine C.mono ?_; rintro e w' ⟨off, rfl, ho, m, rfl⟩)
  go_ret3
  exact ⟨off, rfl, ho, m, rfl⟩

set_option maxHeartbeats 400000 in
theorem zcut_bare (b kn : Nat) (z : Nat → Int) (w : World) (hs : kn + 2 ≤ 4611686018427387904)
    (hc : ∀ i, i < kn + 2 → w.cell? ⟨b, i, none⟩ = some (.int .u8 (z i)))
    (hk : ∀ i, i < kn → z i ≠ 32 ∧ z i ≠ 9 ∧ z i ≠ 61) (h0 : z kn = 32) (h1 : z (kn + 1) = 61) :
    Calls Try.prog 8 #[.slice (some ⟨b, 0, none⟩) (kn + 2) (kn + 2)] w fun e w' =>
      e = .returned (.tuple #[.slice (some ⟨b, 0, none⟩) kn (kn + 2), .slice none 0 0, .bool true]) ∧ ∃ m, w' = w.drewN m := by
  have C := cut_bare b kn z w hs hc hk h0 h1
  clear hc hk h0 h1
  go_enter Try.func8, Try.ntmps8
  go_wp2_with (go_at_call 22; refine C.mono ?_; rintro e w' ⟨rfl, m, rfl⟩)
  go_ret3
  exact ⟨rfl, m, rfl⟩
end Go.Proofs.Qxb6619209a
