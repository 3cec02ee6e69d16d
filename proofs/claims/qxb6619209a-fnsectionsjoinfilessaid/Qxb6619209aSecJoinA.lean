/- FnSectionsJoinFiles (5): the law's own walk. -/
import Derived.Test.Qxb6619209aSecJoin
import Derived.Test.Qxb6619209aSecEq
import Derived.Test.Qxb6619209aSecBytesJ
import Derived.Test.Qxb6619209aSecCopy
import Derived.Deep.Cut
namespace Go.Proofs.Qxb6619209a
open Go.RowKit

/-- What the law is told of its five arguments. -/
structure ArgsJ (w : World) (a : Option Addr) (n : Nat) (L : Nat → Asg) (ha : Option Addr) (hn : Nat) (HA : Nat → Int) (b : Option Addr) (n' : Nat) (L' : Nat → Asg) (hb : Option Addr) (hn' : Nat) (HB : Nat → Int) (sa : Option Addr) (sn : Nat) (S : Nat → Sec) : Prop where
  bn : n ≤ 9223372036854775807
  bn' : n' ≤ 9223372036854775807
  bh : hn ≤ 9223372036854775807
  bh' : hn' ≤ 9223372036854775807
  bs : sn ≤ 9223372036854775807
  l : AsgSl w a n L
  l' : AsgSl w b n' L'
  h : IntSl w ha hn HA
  h' : IntSl w hb hn' HB
  s : SecSl w sa sn S
  nl : a = none → n = 0
  nl' : b = none → n' = 0
  nh : ha = none → hn = 0
  nh' : hb = none → hn' = 0
  ns : sa = none → sn = 0

set_option maxHeartbeats 1600000 in
set_option maxRecDepth 1000000 in
theorem joinOut (a : Option Addr) (n cap : Nat) (L : Nat → Asg) (ha : Option Addr) (hn hcap : Nat) (HA : Nat → Int) (b : Option Addr) (n' cap' : Nat) (L' : Nat → Asg) (hb : Option Addr) (hn' hcap' : Nat) (HB : Nat → Int) (sa : Option Addr) (sn scap : Nat) (S : Nat → Sec) (w : World) (A : ArgsJ w a n L ha hn HA b n' L' hb hn' HB sa sn S)
    (hbig : ¬ n ≤ 65536 ∨ (n ≤ 65536 ∧ ¬ hn ≤ 65536) ∨ (n ≤ 65536 ∧ hn ≤ 65536 ∧ ¬ n' ≤ 65536) ∨ (n ≤ 65536 ∧ hn ≤ 65536 ∧ n' ≤ 65536 ∧ ¬ hn' ≤ 65536) ∨ (n ≤ 65536 ∧ hn ≤ 65536 ∧ n' ≤ 65536 ∧ hn' ≤ 65536 ∧ ¬ sn ≤ 65536)) :
    Calls Try.prog 5 #[.slice a n cap, .slice ha hn hcap, .slice b n' cap', .slice hb hn' hcap', .slice sa sn scap] w fun e w' => e = .returned (.bool true) ∧ Below w.heap.size w w' := by
  have C18 := bytesJ_any a n cap L ha hn hcap b n' cap' L' hb hn' hcap' sa sn scap S w A.bn A.bn' A.bs A.l A.l' A.s
  have bn := A.bn
  have bn' := A.bn'
  have bh := A.bh
  have bh' := A.bh'
  have bs := A.bs
  clear A
  rcases hbig with h1 | ⟨h1, h2⟩ | ⟨h1, h2, h3⟩ | ⟨h1, h2, h3, h4⟩ | ⟨h1, h2, h3, h4, h5⟩
  all_goals
    go_enter Try.func5, Try.ntmps5
    go_wp2_with (go_at_call 18; refine C18.mono ?_; rintro e w' ⟨⟨b1, rfl, _⟩, rfl⟩; cases b1)
    all_goals (go_ret; exact ⟨rfl, Below.refl _ _⟩)
end Go.Proofs.Qxb6619209a
