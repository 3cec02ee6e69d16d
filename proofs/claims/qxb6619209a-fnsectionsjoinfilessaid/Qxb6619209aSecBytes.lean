/- FnSections..: zzBytes_FnSectionsPartitionLines (10). -/
import Derived.Test.Qxb6619209aSecHeads
namespace Go.Proofs.Qxb6619209a
open Go.RowKit

set_option maxHeartbeats 1600000 in
set_option maxRecDepth 1000000 in
theorem bytesP_any (a : Option Addr) (n cap : Nat) (L : Nat → Asg) (ha : Option Addr) (hn hcap : Nat) (sa : Option Addr) (sn scap : Nat) (S : Nat → Sec) (w : World)
    (h1 : n ≤ 9223372036854775807) (h2 : sn ≤ 9223372036854775807) (hs : AsgSl w a n L) (hS : SecSl w sa sn S) :
    Calls Try.prog 10 #[.slice a n cap, .slice ha hn hcap, .slice sa sn scap] w fun e w' => Tells (∀ i, i < sn → (S i).n ≤ 1048576) e ∧ w = w' := by
  have HS : Hid (AsgSl w a n L) := hs
  have HSS : Hid (SecSl w sa sn S) := hS
  clear hs hS
  go_enter Try.func10, Try.ntmps10
  go_wp2
  · go_ret; exact ⟨tells_no, rfl⟩
  go_loop [7, 8] (fun s7 i => ∃ (k : Nat) (t : Int), k ≤ n ∧ s7 = .int .i64 t ∧ i = .int .i64 k) (fun _ i => n - (intOf i).toNat)
  case atStart => exact ⟨0, _, Nat.zero_le _, rfl, rfl⟩
  case round =>
    obtain ⟨k, t, hk, rfl, rfl⟩ := hrel
    by_cases hlt : k < n
    · obtain ⟨b, off, rfl, hc⟩ := HS.out.pos (by omega)
      obtain ⟨c0, c1, c2, c3⟩ := hc k hlt
      clear hc HS HSS c2 c3
      go_wp2
      iterate 4 (go_ret; exact ⟨tells_no, rfl⟩)
      go_round
      case rel => exact ⟨k + 1, _, by omega, rfl, by go_num⟩
      case measure => simp [intOf]; omega
    · clear HS
      go_wp2
      iterate 4 (go_ret; exact ⟨tells_no, rfl⟩)
      go_loop [7, 9] (fun s7 i => ∃ (k : Nat) (t : Int), k ≤ sn ∧ (∀ i, i < k → (S i).n ≤ 1048576) ∧ s7 = .int .i64 t ∧ i = .int .i64 k) (fun _ i => sn - (intOf i).toNat)
      case atStart => exact ⟨0, _, Nat.zero_le _, fun i hi => by omega, rfl, rfl⟩
      case round =>
        obtain ⟨k, t, hk, hbd, rfl, rfl⟩ := hrel
        have HBD : Hid (∀ i, i < k → (S i).n ≤ 1048576) := hbd
        clear hbd
        by_cases hlt : k < sn
        · obtain ⟨b, off, rfl, hc⟩ := HSS.out.pos (by omega)
          obtain ⟨⟨c0, c1, c2, c3⟩, c4, hr, hle, hnil⟩ := hc k hlt
          obtain ⟨ia, hia⟩ : ∃ x, x = (S k).a := ⟨_, rfl⟩
          obtain ⟨nn, hnn⟩ : ∃ x, x = (S k).n := ⟨_, rfl⟩
          obtain ⟨cc, hcc⟩ : ∃ x, x = (S k).cap := ⟨_, rfl⟩
          rw [← hia, ← hnn] at hr
          rw [← hia, ← hnn, ← hcc] at c4
          rw [← hnn] at hle
          have HR : Hid (AsgSl w ia nn (S k).L) := hr
          have HN : Hid (nn ≤ 1048576 → ∀ i, i < k + 1 → (S i).n ≤ 1048576) := by
            intro hle i hi
            by_cases e : i = k
            · subst e; omega
            · exact HBD.out i (by omega)
          clear hc HSS c2 c3 hr hnil hia hnn hcc
          go_wp2
          iterate 6 (go_ret; exact ⟨tells_no, rfl⟩)
          go_loop [7, 10] (fun s7 i => ∃ (k : Nat) (t : Int), k ≤ nn ∧ s7 = .int .i64 t ∧ i = .int .i64 k) (fun _ i => nn - (intOf i).toNat)
          case atStart => exact ⟨0, _, Nat.zero_le _, rfl, rfl⟩
          case round =>
            obtain ⟨j, t, hj, rfl, rfl⟩ := hrel
            by_cases hltj : j < nn
            · obtain ⟨ib, io, rfl, hc⟩ := HR.out.pos (by omega)
              obtain ⟨d0, d1, d2, d3⟩ := hc j hltj
              clear hc HR d2 d3
              go_wp2
              iterate 4 (go_ret; exact ⟨tells_no, rfl⟩)
              go_round
              case rel => exact ⟨j + 1, _, by omega, rfl, by go_num⟩
              case measure => simp [intOf]; omega
            · have HM := HN.out (by omega)
              have HM2 : Hid (∀ i, i < k + 1 → (S i).n ≤ 1048576) := HM
              clear HM HN
              go_wp2
              go_round
              case rel => exact ⟨k + 1, _, by omega, HM2.out, rfl, by go_num⟩
              case measure => simp [intOf]; omega
        · obtain rfl : k = sn := by omega
          go_wp2
          go_ret; exact ⟨tells_yes HBD.out, rfl⟩
end Go.Proofs.Qxb6619209a
