/- FnSections..: what the slices of assignments and of sections hold; zzB1Add (27), zzB1AsgsSize (23), zzB1IntsSize (24). -/
import Derived.Test.Qxb6619209aRows
import Derived.WalkKit
import Derived.WalkSpells
import Derived.WalkLawsBesides
import Derived.Deep.QuietTactic
import Derived.BigQuiet
namespace Go.Proofs.Qxb6619209a
open Go.RowKit

/-- One assignment: keyword, value, line, column. -/
structure Asg where
  k : ByteArray
  v : ByteArray
  l : Int
  c : Int

/-- Four cells from offset o on hold the assignment a. -/
structure AsgAt (w : World) (b o : Nat) (a : Asg) : Prop where
  c0 : w.cell? ⟨b, o, none⟩ = some (.string a.k)
  c1 : w.cell? ⟨b, o + 1, none⟩ = some (.string a.v)
  c2 : w.cell? ⟨b, o + 2, none⟩ = some (.int .i64 a.l)
  c3 : w.cell? ⟨b, o + 3, none⟩ = some (.int .i64 a.c)

/-- A number and a bool are handed back (behind a name: else the walk's simp takes the quantifier over Bool apart). -/
def NumBool (e : Ending) : Prop := ∃ t b, e = .returned (.tuple #[.int .i64 t, .bool b])
def ABool (e : Ending) : Prop := ∃ b, e = .returned (.bool b)

theorem add_any (t n : Int) (w : World) :
    Calls Try.prog 27 #[.int .i64 t, .int .i64 n] w fun e w' => NumBool e ∧ w = w' := by
  go_enter Try.func27, Try.ntmps27
  go_wp2
  all_goals
    go_ret2
    exact ⟨⟨_, _, rfl⟩, rfl⟩

/-- A slice of assignments: empty (wherever it leads), or its elements lie four cells each from ⟨b, off⟩ on. -/
def AsgSl (w : World) (a : Option Addr) (n : Nat) (L : Nat → Asg) : Prop :=
  n = 0 ∨ ∃ b off, a = some ⟨b, off, none⟩ ∧ ∀ i, i < n → AsgAt w b (off + i * 4) (L i)

set_option maxHeartbeats 400000 in
theorem asgsSize_any (t : Int) (a : Option Addr) (n cap : Nat) (L : Nat → Asg) (w : World) (hn : n ≤ 9223372036854775807) (hs : AsgSl w a n L) :
    Calls Try.prog 23 #[.int .i64 t, .slice a n cap] w fun e w' => NumBool e ∧ w = w' := by
  rcases hs with rfl | ⟨b, off, rfl, hc⟩
  · go_enter Try.func23, Try.ntmps23
    go_wp2_with (go_at_call 27; refine (add_any _ _ _).mono ?_; rintro e w' ⟨⟨t1, b1, rfl⟩, rfl⟩; cases b1)
    · go_ret2; exact ⟨⟨_, _, rfl⟩, rfl⟩
    refine wp_loop_rounds 1 ?_
    rw [rounds_succ]
    go_wp2
    go_ret2; exact ⟨⟨_, _, rfl⟩, rfl⟩
  · go_enter Try.func23, Try.ntmps23
    go_wp2_with (go_at_call 27; refine (add_any _ _ _).mono ?_; rintro e w' ⟨⟨t1, b1, rfl⟩, rfl⟩; cases b1)
    · go_ret2; exact ⟨⟨_, _, rfl⟩, rfl⟩
    · go_ret2; exact ⟨⟨_, _, rfl⟩, rfl⟩
    go_loop [6, 7, 8] (fun s6 s7 i => ∃ (k : Nat) (t6 : Int) (b7 : Bool), k ≤ n ∧ s6 = .int .i64 t6 ∧ s7 = .bool b7 ∧ i = .int .i64 k) (fun _ _ i => n - (intOf i).toNat)
    case atStart => exact ⟨0, _, _, Nat.zero_le _, rfl, rfl, rfl⟩
    case round =>
      obtain ⟨k, t6, b7, hk, rfl, rfl, rfl⟩ := hrel
      by_cases hlt : k < n
      · obtain ⟨c0, c1, c2, c3⟩ := hc k hlt
        clear hc
        go_wp2_with (go_at_call 27; refine (add_any _ _ _).mono ?_; rintro e w' ⟨⟨t1, b1, rfl⟩, rfl⟩; cases b1)
        · go_ret2; exact ⟨⟨_, _, rfl⟩, rfl⟩
        · go_ret2; exact ⟨⟨_, _, rfl⟩, rfl⟩
        go_round
        case rel => exact ⟨k + 1, _, _, by omega, rfl, rfl, by go_num⟩
        case measure => simp [intOf]; omega
      · go_wp2
        go_ret2; exact ⟨⟨_, _, rfl⟩, rfl⟩

theorem intsSize_any (t : Int) (a : Option Addr) (n cap : Nat) (w : World) :
    Calls Try.prog 24 #[.int .i64 t, .slice a n cap] w fun e w' => NumBool e ∧ w = w' := by
  go_enter Try.func24, Try.ntmps24
  go_wp2_with (go_at_call 27; refine (add_any _ _ _).mono ?_; rintro e w' ⟨⟨t1, b1, rfl⟩, rfl⟩; cases b1)
  all_goals (go_ret2; exact ⟨⟨_, _, rfl⟩, rfl⟩)
end Go.Proofs.Qxb6619209a
