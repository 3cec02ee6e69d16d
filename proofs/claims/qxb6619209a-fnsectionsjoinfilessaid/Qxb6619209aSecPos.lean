/- FnSectionsPartitionLines: where the walk over the lines stands: plain facts. -/
import Derived.Test.Qxb6619209aSecPartB
namespace Go.Proofs.Qxb6619209a
open Go.RowKit

theorem AsgAt.later {w w' : World} {b o : Nat} {a : Asg} (h : AsgAt w b o a) (hb : Below w.heap.size w w') : AsgAt w' b o a := h.below hb h.lt
theorem AsgAt.later2 {w w' w'' : World} {b o : Nat} {a : Asg} (h : AsgAt w b o a) (hb : Below w.heap.size w w') (hc : Below w'.heap.size w' w'') : AsgAt w'' b o a := (h.later hb).later hc

/-- Where the walk over the lines stands ahead of head i. -/
def posAt (hn n : Nat) (H : Nat → Int) (i : Nat) : Nat := if i < hn then (H i).toNat else n

theorem posAt_next {hn n : Nat} {H : Nat → Int} {k q : Nat} (h : (q : Int) = endOf hn n H k) : posAt hn n H (k + 1) = q := by
  unfold endOf at h
  unfold posAt
  by_cases e : k + 1 < hn
  · rw [if_pos e] at h ⊢; omega
  · rw [if_neg e] at h ⊢; omega

/-- The end of head k's section, as a number. -/
theorem end_num {hn n k : Nat} {H : Nat → Int} (hv : ValidH hn n H) (hk : k < hn) : ∃ q : Nat, (q : Int) = endOf hn n H k ∧ H k + 1 ≤ (q : Int) ∧ q ≤ n ∧ -1 ≤ H k ∧ H k < n := by
  have h0 := valid_ge hv k hk
  have h1 := (hv k hk).1
  unfold endOf
  by_cases e : k + 1 < hn
  · have x1 := (hv (k + 1) e).1
    have x2 := (hv (k + 1) e).2.2 (by omega)
    simp only [Nat.add_sub_cancel] at x2
    obtain ⟨q, hq⟩ := Int.eq_ofNat_of_zero_le (show 0 ≤ H (k + 1) by omega)
    exact ⟨q, by rw [if_pos e, hq], by omega, by omega, by omega, h1⟩
  · exact ⟨n, by rw [if_neg e], by omega, Nat.le_refl _, by omega, h1⟩

/-- The section of head k as the caller finds it: its header, its lines from 'lo' on, 'nn' of them. -/
theorem got_new {w : World} {g sn hn n k : Nat} {S : Nat → Sec} {L : Nat → Asg} {H : Nat → Int} (hG : GotAt w g (sn + hn) (allSec sn S hn n L H)) (hv : ValidH hn n H) (hk : k < hn) :
    ∃ lo nn : Nat, ∃ a2 : Option Addr, (H k + 1 = (lo : Int)) ∧ lo + nn ≤ n ∧ posAt hn n H (k + 1) = lo + nn ∧
      AsgAt w g ((sn + k) * 5) (headOf L (H k)) ∧ w.cell? ⟨g, (sn + k) * 5 + 4, none⟩ = some (.slice a2 nn nn) ∧ AsgSl w a2 nn (fun j => L (lo + j)) ∧ (a2 = none ↔ nn = 0) := by
  obtain ⟨q, hq, h1, h2, h3, _⟩ := end_num hv hk
  obtain ⟨lo, hlo⟩ := Int.eq_ofNat_of_zero_le (show 0 ≤ H k + 1 by omega)
  obtain ⟨a2, g1, g2, g3, g4⟩ := hG (sn + k) (by omega)
  have hT : allSec sn S hn n L H (sn + k) = newSec hn n L H k := by
    unfold allSec
    rw [if_neg (by omega), Nat.add_sub_cancel_left]
  rw [hT] at g1 g2 g3 g4
  have hn' : (newSec hn n L H k).n = q - lo := by
    unfold newSec
    dsimp only
    rw [← hq, hlo]; omega
  have hL : (newSec hn n L H k).L = fun j => L (lo + j) := by
    unfold newSec
    dsimp only
    rw [hlo]; rfl
  have ha : (newSec hn n L H k).a = none ↔ q - lo = 0 := by
    unfold newSec
    dsimp only
    rw [← hq, hlo]
    split
    · constructor
      · intro h; cases h
      · intro h; omega
    · constructor
      · intro _; omega
      · intro _; rfl
  rw [hn'] at g2 g3
  rw [hL] at g3
  exact ⟨lo, q - lo, a2, by simpa using hlo, by omega, by rw [posAt_next hq]; omega, g1, g2, g3, g4.trans ha⟩
/-- The sections that were there are as they were. -/
theorem got_old {w : World} {g sn hn n : Nat} {S : Nat → Sec} {L : Nat → Asg} {H : Nat → Int} (hG : GotAt w g (sn + hn) (allSec sn S hn n L H)) : GotAt w g sn S := by
  intro i hi
  have := hG i (by omega)
  unfold allSec at this
  rw [if_pos hi] at this
  exact this
end Go.Proofs.Qxb6619209a
