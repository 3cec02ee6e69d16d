/- FnSections..: zzB1SecsSize (25), zzB1SectionsSizeOK (11), zzB1JoinSizeOK (19), zzB1HeadsValid (12). -/
import Derived.Test.Qxb6619209aSecAdd
namespace Go.Proofs.Qxb6619209a
open Go.RowKit

/-- One section: its header, and the slice of its assignments. -/
structure Sec where
  h : Asg
  a : Option Addr
  n : Nat
  cap : Nat
  L : Nat → Asg

structure SecAt (w : World) (b o : Nat) (s : Sec) : Prop where
  hd : AsgAt w b o s.h
  sl : w.cell? ⟨b, o + 4, none⟩ = some (.slice s.a s.n s.cap)
  row : AsgSl w s.a s.n s.L
  le : s.n ≤ 9223372036854775807
  nil : s.a = none → s.n = 0 ∧ s.cap = 0

def SecSl (w : World) (a : Option Addr) (n : Nat) (S : Nat → Sec) : Prop :=
  n = 0 ∨ ∃ b off, a = some ⟨b, off, none⟩ ∧ ∀ i, i < n → SecAt w b (off + i * 5) (S i)

theorem AsgSl.pos {w : World} {a : Option Addr} {n : Nat} {L : Nat → Asg} (h : AsgSl w a n L) (hn : 0 < n) : ∃ b off, a = some ⟨b, off, none⟩ ∧ ∀ i, i < n → AsgAt w b (off + i * 4) (L i) := by
  rcases h with rfl | h
  · omega
  · exact h
theorem SecSl.pos {w : World} {a : Option Addr} {n : Nat} {S : Nat → Sec} (h : SecSl w a n S) (hn : 0 < n) : ∃ b off, a = some ⟨b, off, none⟩ ∧ ∀ i, i < n → SecAt w b (off + i * 5) (S i) := by
  rcases h with rfl | h
  · omega
  · exact h

set_option maxHeartbeats 400000 in
theorem secsSize_any (t : Int) (a : Option Addr) (n cap : Nat) (S : Nat → Sec) (w : World) (hn : n ≤ 9223372036854775807) (hs : SecSl w a n S) :
    Calls Try.prog 25 #[.int .i64 t, .slice a n cap] w fun e w' => NumBool e ∧ w = w' := by
  rcases hs with rfl | ⟨b, off, rfl, hc⟩
  · go_enter Try.func25, Try.ntmps25
    go_wp2_with (go_at_call 27; refine (add_any _ _ _).mono ?_; rintro e w' ⟨⟨t1, b1, rfl⟩, rfl⟩; cases b1)
    · go_ret2; exact ⟨⟨_, _, rfl⟩, rfl⟩
    refine wp_loop_rounds 1 ?_
    rw [rounds_succ]
    go_wp2
    go_ret2; exact ⟨⟨_, _, rfl⟩, rfl⟩
  · go_enter Try.func25, Try.ntmps25
    go_wp2_with (go_at_call 27; refine (add_any _ _ _).mono ?_; rintro e w' ⟨⟨t1, b1, rfl⟩, rfl⟩; cases b1)
    · go_ret2; exact ⟨⟨_, _, rfl⟩, rfl⟩
    · go_ret2; exact ⟨⟨_, _, rfl⟩, rfl⟩
    go_loop [6, 7, 8] (fun s6 s7 i => ∃ (k : Nat) (t6 : Int) (b7 : Bool), k ≤ n ∧ s6 = .int .i64 t6 ∧ s7 = .bool b7 ∧ i = .int .i64 k) (fun _ _ i => n - (intOf i).toNat)
    case atStart => exact ⟨0, _, _, Nat.zero_le _, rfl, rfl, rfl⟩
    case round =>
      obtain ⟨k, t6, b7, hk, rfl, rfl, rfl⟩ := hrel
      by_cases hlt : k < n
      · obtain ⟨⟨c0, c1, c2, c3⟩, c4, hr, hle, hnil⟩ := hc k hlt
        have C := fun t => asgsSize_any t (S k).a (S k).n (S k).cap (S k).L w hle hr
        clear hc hr hnil c2 c3
        go_wp2_with (first | (go_at_call 27; refine (add_any _ _ _).mono ?_; rintro e w' ⟨⟨t1, b1, rfl⟩, rfl⟩; cases b1) | (go_at_call 23; refine (C _).mono ?_; rintro e w' ⟨⟨t1, b1, rfl⟩, rfl⟩; cases b1))
        · go_ret2; exact ⟨⟨_, _, rfl⟩, rfl⟩
        · go_ret2; exact ⟨⟨_, _, rfl⟩, rfl⟩
        · go_ret2; exact ⟨⟨_, _, rfl⟩, rfl⟩
        go_round
        case rel => exact ⟨k + 1, _, _, by omega, rfl, rfl, by go_num⟩
        case measure => simp [intOf]; omega
      · go_wp2
        go_ret2; exact ⟨⟨_, _, rfl⟩, rfl⟩

set_option maxHeartbeats 400000 in
theorem sizeOK_any (a : Option Addr) (n cap : Nat) (L : Nat → Asg) (ha : Option Addr) (hn hcap : Nat) (sa : Option Addr) (sn scap : Nat) (S : Nat → Sec) (w : World)
    (h1 : n ≤ 9223372036854775807) (h2 : sn ≤ 9223372036854775807) (hs : AsgSl w a n L) (hS : SecSl w sa sn S) :
    Calls Try.prog 11 #[.slice a n cap, .slice ha hn hcap, .slice sa sn scap] w fun e w' => ABool e ∧ w = w' := by
  have C1 := fun t => asgsSize_any t a n cap L w h1 hs
  have C2 := fun t => intsSize_any t ha hn hcap w
  have C3 := fun t => secsSize_any t sa sn scap S w h2 hS
  clear hs hS
  go_enter Try.func11, Try.ntmps11
  go_wp2_with (first | (go_at_call 23; refine (C1 _).mono ?_; rintro e w' ⟨⟨t1, b1, rfl⟩, rfl⟩; cases b1) | (go_at_call 24; refine (C2 _).mono ?_; rintro e w' ⟨⟨t2, b2, rfl⟩, rfl⟩; cases b2) | (go_at_call 25; refine (C3 _).mono ?_; rintro e w' ⟨⟨t3, b3, rfl⟩, rfl⟩))
  all_goals (go_ret; exact ⟨⟨_, rfl⟩, rfl⟩)

set_option maxHeartbeats 800000 in
theorem joinSizeOK_any (a : Option Addr) (n cap : Nat) (L : Nat → Asg) (ha : Option Addr) (hn hcap : Nat) (a' : Option Addr) (n' cap' : Nat) (L' : Nat → Asg) (ha' : Option Addr) (hn' hcap' : Nat) (sa : Option Addr) (sn scap : Nat) (S : Nat → Sec) (w : World)
    (h1 : n ≤ 9223372036854775807) (h1' : n' ≤ 9223372036854775807) (h2 : sn ≤ 9223372036854775807) (hs : AsgSl w a n L) (hs' : AsgSl w a' n' L') (hS : SecSl w sa sn S) :
    Calls Try.prog 19 #[.slice a n cap, .slice ha hn hcap, .slice a' n' cap', .slice ha' hn' hcap', .slice sa sn scap] w fun e w' => ABool e ∧ w = w' := by
  have C1 := fun t => asgsSize_any t a n cap L w h1 hs
  have C2 := fun t => intsSize_any t ha hn hcap w
  have C1' := fun t => asgsSize_any t a' n' cap' L' w h1' hs'
  have C2' := fun t => intsSize_any t ha' hn' hcap' w
  have C3 := fun t => secsSize_any t sa sn scap S w h2 hS
  clear hs hS hs'
  go_enter Try.func19, Try.ntmps19
  go_wp2_with fail
  refine (C1 _).mono ?_; rintro e w' ⟨⟨t1, b1, rfl⟩, rfl⟩; cases b1
  · go_wp2
    go_ret; exact ⟨⟨_, rfl⟩, rfl⟩
  go_wp2_with fail
  refine (C2 _).mono ?_; rintro e w' ⟨⟨t1, b1, rfl⟩, rfl⟩; cases b1
  · go_wp2
    go_ret; exact ⟨⟨_, rfl⟩, rfl⟩
  go_wp2_with fail
  refine (C1' _).mono ?_; rintro e w' ⟨⟨t1, b1, rfl⟩, rfl⟩; cases b1
  · go_wp2
    go_ret; exact ⟨⟨_, rfl⟩, rfl⟩
  go_wp2_with fail
  refine (C2' _).mono ?_; rintro e w' ⟨⟨t1, b1, rfl⟩, rfl⟩; cases b1
  · go_wp2
    go_ret; exact ⟨⟨_, rfl⟩, rfl⟩
  go_wp2_with fail
  refine (C3 _).mono ?_; rintro e w' ⟨⟨t1, b1, rfl⟩, rfl⟩
  go_wp2
  go_ret; exact ⟨⟨_, rfl⟩, rfl⟩
end Go.Proofs.Qxb6619209a
