/- FnSections..: zzB1EqSection (21). -/
import Derived.Test.Qxb6619209aSecSame
namespace Go.Proofs.Qxb6619209a
open Go.RowKit

theorem eqSec_nil (h : Asg) (cap cap' : Nat) (w : World) :
    Calls Try.prog 21 #[.agg #[.string h.k, .string h.v, .int .i64 h.l, .int .i64 h.c, .slice none 0 cap], .agg #[.string h.k, .string h.v, .int .i64 h.l, .int .i64 h.c, .slice none 0 cap']] w fun e w' => e = .returned (.bool true) ∧ Below w.heap.size w w' := by
  have qe : ∀ (W : World) (a : Option Addr) (n c n' c' : Nat), (binOp .eql 35 (.slice a n c) (.slice none n' c')).run Try.prog W = .ok (.bool a.isNone) W := fun W a n c n' c' => Lib.run_eql_slice_nil W _ _ a n c n' c' Try.underlying35
  go_enter Try.func21, Try.ntmps21
  go_wp2
  refine wp_loop_rounds 1 ?_
  rw [rounds_succ]
  go_wp2
  go_ret
  exact ⟨rfl, below_box2 _ _ _⟩

theorem Boxed.drewN {w wr : World} {a : Option Addr} {n cap : Nat} {a' : Option Addr} {n' cap' : Nat} (h : Boxed w wr a n cap a' n' cap') (m : Nat) : Boxed w (wr.drewN m) a n cap a' n' cap' :=
  ⟨⟨h.b.os, h.b.tape, h.b.output, h.b.size, h.b.block⟩, h.sz, h.x, h.y⟩

set_option maxHeartbeats 1600000 in
theorem eqSec_some (h : Asg) (p : Addr) (n cap : Nat) (p' : Addr) (cap' : Nat) (L L' : Nat → Asg) (w : World) (bn : n ≤ 1048576) (hs : AsgSl w (some p) n L) (hs' : AsgSl w (some p') n L') (he : ∀ i, i < n → L i = L' i) :
    Calls Try.prog 21 #[.agg #[.string h.k, .string h.v, .int .i64 h.l, .int .i64 h.c, .slice (some p) n cap], .agg #[.string h.k, .string h.v, .int .i64 h.l, .int .i64 h.c, .slice (some p') n cap']] w fun e w' => e = .returned (.bool true) ∧ Below w.heap.size w w' := by
  have qe : ∀ (W : World) (a : Option Addr) (n c n' c' : Nat), (binOp .eql 35 (.slice a n c) (.slice none n' c')).run Try.prog W = .ok (.bool a.isNone) W := fun W a n c n' c' => Lib.run_eql_slice_nil W _ _ a n c n' c' Try.underlying35
  have HS : Hid (AsgSl w (some p) n L ∧ AsgSl w (some p') n L' ∧ ∀ i, i < n → L i = L' i) := ⟨hs, hs', he⟩
  clear hs hs' he
  go_enter Try.func21, Try.ntmps21
  go_wp2
  clear qe
  go_loopw [5] (fun i wr => ∃ k : Nat, k ≤ n ∧ i = .int .i64 k ∧ Boxed w wr (some p) n cap (some p') n cap') (fun i _ => n - (intOf i).toNat)
  case atStart => exact ⟨0, Nat.zero_le _, rfl, boxed_new w⟩
  case round =>
    obtain ⟨k, hk, rfl, hbx⟩ := hrel
    have HB : Hid (Boxed w wr (some p) n cap (some p') n cap') := hbx
    obtain ⟨hb, _, x, y⟩ := hbx
    by_cases hlt : k < n
    · obtain ⟨b, off, hx, hc⟩ := HS.out.1.pos (by omega)
      obtain ⟨b', off', hx', hc'⟩ := HS.out.2.1.pos (by omega)
      have hLL := HS.out.2.2 k hlt
      obtain rfl : p = ⟨b, off, none⟩ := by simpa using hx
      obtain rfl : p' = ⟨b', off', none⟩ := by simpa using hx'
      obtain ⟨c0, c1, c2, c3⟩ := (hc k hlt).below hb (hc k hlt).lt
      have hd := (hc' k hlt).below hb (hc' k hlt).lt
      rw [← hLL] at hd
      obtain ⟨d0, d1, d2, d3⟩ := hd
      have hltk : (k : Int) < (n : Int) := by omega
      clear hc hc' hx hx' HS hb hLL
      go_wp2
      go_quiet (fail)
      have HB2 := fun m => HB.out.drewN m
      clear HB x y c0 c1 c2 c3 d0 d1 d2 d3
      go_wp2
      go_roundw
      case rel => exact ⟨k + 1, by omega, by go_num, HB2 _⟩
      case measure => simp [intOf]; omega
    · go_wp2
      go_ret
      exact ⟨rfl, hb⟩

theorem eqSec_any (h : Asg) (a : Option Addr) (n cap : Nat) (a' : Option Addr) (cap' : Nat) (L L' : Nat → Asg) (w : World) (bn : n ≤ 1048576) (hnil : a = none ↔ a' = none) (hz : a' = none → n = 0) (hs : AsgSl w a n L) (hs' : AsgSl w a' n L') (he : ∀ i, i < n → L i = L' i) :
    Calls Try.prog 21 #[.agg #[.string h.k, .string h.v, .int .i64 h.l, .int .i64 h.c, .slice a n cap], .agg #[.string h.k, .string h.v, .int .i64 h.l, .int .i64 h.c, .slice a' n cap']] w fun e w' => e = .returned (.bool true) ∧ Below w.heap.size w w' := by
  cases a with
  | none =>
    obtain rfl := hnil.1 rfl
    obtain rfl := hz rfl
    exact eqSec_nil h cap cap' w
  | some p =>
    cases a' with
    | none => exact absurd (hnil.2 rfl) (by simp)
    | some p' => exact eqSec_some h p n cap p' cap' L L' w bn hs hs' he
end Go.Proofs.Qxb6619209a
