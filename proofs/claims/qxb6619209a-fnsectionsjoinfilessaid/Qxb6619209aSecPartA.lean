/- FnSectionsPartitionLines (4): the ways out ahead of the law's own work. -/
import Derived.Test.Qxb6619209aSecGot
import Derived.Test.Qxb6619209aSecBytes
import Derived.Laws.CopyOwn
namespace Go.Proofs.Qxb6619209a
open Go.RowKit

/-- What the law is told of its three arguments. -/
structure ArgsP (w : World) (a : Option Addr) (n : Nat) (L : Nat → Asg) (ha : Option Addr) (hn : Nat) (H : Nat → Int) (sa : Option Addr) (sn : Nat) (S : Nat → Sec) : Prop where
  bn : n ≤ 9223372036854775807
  bh : hn ≤ 9223372036854775807
  bs : sn ≤ 9223372036854775807
  l : AsgSl w a n L
  h : IntSl w ha hn H
  s : SecSl w sa sn S
  nl : a = none → n = 0
  nh : ha = none → hn = 0
  ns : sa = none → sn = 0

set_option maxHeartbeats 1600000 in
set_option maxRecDepth 1000000 in
theorem partOut (a : Option Addr) (n cap : Nat) (L : Nat → Asg) (ha : Option Addr) (hn hcap : Nat) (H : Nat → Int) (sa : Option Addr) (sn scap : Nat) (S : Nat → Sec) (w : World) (A : ArgsP w a n L ha hn H sa sn S)
    (hbig : ¬ (n ≤ 65536 ∧ hn ≤ 65536 ∧ sn ≤ 65536)) :
    Calls Try.prog 4 #[.slice a n cap, .slice ha hn hcap, .slice sa sn scap] w fun e w' => e = .returned (.bool true) ∧ Below w.heap.size w w' := by
  have C10 := bytesP_any a n cap L ha hn hcap sa sn scap S w A.bn A.bs A.l A.s
  have bn := A.bn
  have bh := A.bh
  have bs := A.bs
  clear A
  by_cases h1 : n ≤ 65536
  · by_cases h2 : hn ≤ 65536
    · have h3 : ¬ sn ≤ 65536 := fun h => hbig ⟨h1, h2, h⟩
      clear hbig
      go_enter Try.func4, Try.ntmps4
      go_wp2_with (go_at_call 10; refine C10.mono ?_; rintro e w' ⟨⟨b1, rfl, _⟩, rfl⟩; cases b1)
      all_goals (go_ret; exact ⟨rfl, Below.refl _ _⟩)
    · clear hbig
      go_enter Try.func4, Try.ntmps4
      go_wp2_with (go_at_call 10; refine C10.mono ?_; rintro e w' ⟨⟨b1, rfl, _⟩, rfl⟩; cases b1)
      all_goals (go_ret; exact ⟨rfl, Below.refl _ _⟩)
  · clear hbig
    go_enter Try.func4, Try.ntmps4
    go_wp2_with (go_at_call 10; refine C10.mono ?_; rintro e w' ⟨⟨b1, rfl, _⟩, rfl⟩; cases b1)
    all_goals (go_ret; exact ⟨rfl, Below.refl _ _⟩)
end Go.Proofs.Qxb6619209a
