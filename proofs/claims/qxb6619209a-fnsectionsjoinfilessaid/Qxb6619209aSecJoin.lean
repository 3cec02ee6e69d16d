/- FnSectionsJoinFiles: the joined file: plain facts. -/
import Derived.Test.Qxb6619209aSecPos
namespace Go.Proofs.Qxb6619209a
open Go.RowKit

/-- The joined lines, the joined heads. -/
def LAB (n : Nat) (L L' : Nat → Asg) (i : Nat) : Asg := if i < n then L i else L' (i - n)
def HAB (hn n : Nat) (HA HB : Nat → Int) (i : Nat) : Int := if i < hn then HA i else HB (i - hn) + n
theorem LAB_left {n i : Nat} {L L' : Nat → Asg} (h : i < n) : LAB n L L' i = L i := by unfold LAB; rw [if_pos h]
theorem LAB_right {n i : Nat} {L L' : Nat → Asg} : LAB n L L' (n + i) = L' i := by unfold LAB; rw [if_neg (by omega), Nat.add_sub_cancel_left]
theorem HAB_left {hn n i : Nat} {HA HB : Nat → Int} (h : i < hn) : HAB hn n HA HB i = HA i := by unfold HAB; rw [if_pos h]
theorem HAB_right {hn n i : Nat} {HA HB : Nat → Int} : HAB hn n HA HB (hn + i) = HB i + n := by unfold HAB; rw [if_neg (by omega), Nat.add_sub_cancel_left]

theorem valid_join {hn n hn' n' : Nat} {HA HB : Nat → Int} (hA : ValidH hn n HA) (hB : ValidH hn' n' HB) (h0 : 0 < hn' → HB 0 = 0) : ValidH (hn + hn') (n + n') (HAB hn n HA HB) := by
  intro i hi
  by_cases hl : i < hn
  · obtain ⟨a1, a2, a3⟩ := hA i hl
    rw [HAB_left hl]
    refine ⟨by omega, a2, fun h => ?_⟩
    rw [HAB_left (by omega)]
    exact a3 h
  · obtain ⟨k, rfl⟩ : ∃ k, i = hn + k := ⟨i - hn, by omega⟩
    obtain ⟨b1, b2, b3⟩ := hB k (by omega)
    have hg := valid_ge hB k (by omega)
    rw [HAB_right]
    refine ⟨by omega, fun h => by omega, fun h => ?_⟩
    by_cases hk : k = 0
    · subst hk
      have hh := h0 (by omega)
      rw [HAB_left (by omega)]
      have := (hA (hn + 0 - 1) (by omega)).1
      omega
    · have e : hn + k - 1 = hn + (k - 1) := by omega
      rw [e, HAB_right]
      have := b3 (by omega)
      omega

/-- Two sections that the law finds equal. -/
structure SecEq (s t : Sec) : Prop where
  h : s.h = t.h
  n : s.n = t.n
  a : s.a = none ↔ t.a = none
  L : ∀ j, j < s.n → s.L j = t.L j
theorem SecEq.refl (s : Sec) : SecEq s s := ⟨rfl, rfl, Iff.rfl, fun _ _ => rfl⟩

theorem newSec_a {hn n hn' n' k : Nat} {L L' : Nat → Asg} {HA HB : Nat → Int} (hA : ValidH hn n HA) (h0 : 0 < hn' → HB 0 = 0) (hz : hn' = 0 → n' = 0) (hk : k < hn) :
    SecEq (newSec (hn + hn') (n + n') (LAB n L L') (HAB hn n HA HB) k) (newSec hn n L HA k) := by
  obtain ⟨q, hq, q1, q2, q3, q4⟩ := end_num hA hk
  have e1 : HAB hn n HA HB k = HA k := HAB_left hk
  have e2 : endOf (hn + hn') (n + n') (HAB hn n HA HB) k = endOf hn n HA k := by
    unfold endOf
    by_cases c1 : k + 1 < hn
    · rw [if_pos (by omega), if_pos c1, HAB_left c1]
    · rw [if_neg c1]
      by_cases c2 : hn' = 0
      · rw [if_neg (by omega)]; have := hz c2; omega
      · rw [if_pos (by omega)]
        obtain rfl : hn = k + 1 := by omega
        have := h0 (by omega)
        rw [show k + 1 = (k + 1) + 0 from rfl, HAB_right]; omega
  unfold newSec
  rw [e1, e2, ← hq]
  refine ⟨?_, rfl, Iff.rfl, fun j hj => ?_⟩
  · show headOf (LAB n L L') (HA k) = headOf L (HA k)
    unfold headOf
    split
    · exact LAB_left (by omega)
    · rfl
  · exact LAB_left (by dsimp only at hj; omega)

theorem newSec_b {hn n hn' n' k : Nat} {L L' : Nat → Asg} {HA HB : Nat → Int} (hB : ValidH hn' n' HB) (h0 : 0 < hn' → HB 0 = 0) (hk : k < hn') :
    SecEq (newSec (hn + hn') (n + n') (LAB n L L') (HAB hn n HA HB) (hn + k)) (newSec hn' n' L' HB k) := by
  obtain ⟨q, hq, q1, q2, q3, q4⟩ := end_num hB hk
  have hpos : 0 ≤ HB k := by
    by_cases c : k = 0
    · subst c; have := h0 (by omega); omega
    · have := valid_ge hB k hk; omega
  have e1 : HAB hn n HA HB (hn + k) = HB k + n := HAB_right
  have e2 : endOf (hn + hn') (n + n') (HAB hn n HA HB) (hn + k) = endOf hn' n' HB k + n := by
    unfold endOf
    by_cases c1 : k + 1 < hn'
    · rw [if_pos (by omega), if_pos c1, show hn + k + 1 = hn + (k + 1) from rfl, HAB_right]
    · rw [if_neg c1, if_neg (by omega)]; omega
  unfold newSec
  rw [e1, e2, ← hq]
  refine ⟨?_, ?_, ?_, fun j hj => ?_⟩
  · show headOf (LAB n L L') (HB k + n) = headOf L' (HB k)
    unfold headOf
    rw [if_pos (by omega), if_pos hpos, show (HB k + (n : Int)).toNat = n + (HB k).toNat from by omega]
    exact LAB_right
  · dsimp only; omega
  · dsimp only
    by_cases c : HB k + 1 < (q : Int)
    · rw [if_pos (by omega), if_pos c]
    · rw [if_neg (by omega), if_neg c]
  · dsimp only
    rw [show (HB k + (n : Int) + 1).toNat + j = n + ((HB k + 1).toNat + j) from by omega]
    exact LAB_right

theorem join_secs {sn hn n hn' n' : Nat} {S : Nat → Sec} {L L' : Nat → Asg} {HA HB : Nat → Int} (hA : ValidH hn n HA) (hB : ValidH hn' n' HB) (h0 : 0 < hn' → HB 0 = 0) (hz : hn' = 0 → n' = 0) :
    ∀ i, i < sn + hn + hn' → SecEq (allSec sn S (hn + hn') (n + n') (LAB n L L') (HAB hn n HA HB) i) (allSec (sn + hn) (allSec sn S hn n L HA) hn' n' L' HB i) := by
  intro i hi
  unfold allSec
  by_cases c1 : i < sn
  · rw [if_pos c1, if_pos (by omega), if_pos c1]; exact SecEq.refl _
  · rw [if_neg c1]
    by_cases c2 : i < sn + hn
    · rw [if_pos c2, if_neg c1]
      exact newSec_a hA h0 hz (by omega)
    · rw [if_neg c2, show i - sn = hn + (i - (sn + hn)) from by omega]
      exact newSec_b hB h0 (by omega)

/-! ### Rows that are built by append -/
def rowA (L : Nat → Asg) (k : Nat) : List Value := (List.range k).flatMap fun i => acells (L i)
theorem rowA_succ (L : Nat → Asg) (k : Nat) : rowA L (k + 1) = rowA L k ++ acells (L k) := by unfold rowA; rw [List.range_succ]; simp
theorem rowA_len (L : Nat → Asg) (k : Nat) : (rowA L k).length = k * 4 := by
  induction k with
  | zero => rfl
  | succ k ih => rw [rowA_succ, List.length_append, ih]; simp [acells]; omega
theorem rowA_at (L : Nat → Asg) : ∀ k i, i < k → (rowA L k)[i * 4]? = some (.string (L i).k) ∧ (rowA L k)[i * 4 + 1]? = some (.string (L i).v) ∧ (rowA L k)[i * 4 + 2]? = some (.int .i64 (L i).l) ∧ (rowA L k)[i * 4 + 3]? = some (.int .i64 (L i).c) := by
  intro k
  induction k with
  | zero => intro i h; omega
  | succ k ih =>
    intro i h
    rw [rowA_succ]
    have hl := rowA_len L k
    by_cases e : i = k
    · subst e
      refine ⟨?_, ?_, ?_, ?_⟩
      · rw [List.getElem?_append_right (by omega), hl, show i * 4 - i * 4 = 0 from by omega]; rfl
      · rw [List.getElem?_append_right (by omega), hl, show i * 4 + 1 - i * 4 = 1 from by omega]; rfl
      · rw [List.getElem?_append_right (by omega), hl, show i * 4 + 2 - i * 4 = 2 from by omega]; rfl
      · rw [List.getElem?_append_right (by omega), hl, show i * 4 + 3 - i * 4 = 3 from by omega]; rfl
    · obtain ⟨a0, a1, a2, a3⟩ := ih i (by omega)
      refine ⟨?_, ?_, ?_, ?_⟩ <;> rw [List.getElem?_append_left (by omega)] <;> assumption
theorem asgSl_of_owns {w : World} {base g k cap : Nat} {L : Nat → Asg} (h : w.ownsRow base 40 4 (.slice (some ⟨g, 0, none⟩) k cap) k (rowA L k)) : AsgSl w (some ⟨g, 0, none⟩) k L := by
  refine .inr ⟨g, 0, rfl, fun i hi => ?_⟩
  obtain ⟨a0, a1, a2, a3⟩ := rowA_at L k i hi
  rw [Nat.zero_add]
  exact ⟨by rw [h.cellAt _ (by omega), a0], by rw [h.cellAt _ (by omega), a1], by rw [h.cellAt _ (by omega), a2], by rw [h.cellAt _ (by omega), a3]⟩
theorem acells_one (a : Asg) : ∀ u ∈ acells a, u.oneCell' = true := by
  intro u hu
  simp [acells] at hu
  rcases hu with rfl | rfl | rfl | rfl <;> rfl
def rowZ (n : Nat) (H : Nat → Int) : List Value := (List.range n).map fun i => .int .i64 (H i)
theorem rowZ_succ (n : Nat) (H : Nat → Int) : rowZ (n + 1) H = rowZ n H ++ [.int .i64 (H n)] := by unfold rowZ; rw [List.range_succ]; simp
theorem intSl_of_owns {w : World} {base g k cap : Nat} {H : Nat → Int} (h : w.ownsRow base 3 1 (.slice (some ⟨g, 0, none⟩) k cap) k (rowZ k H)) : IntSl w (some ⟨g, 0, none⟩) k H := by
  refine .inr ⟨g, 0, rfl, fun i hi => ?_⟩
  rw [Nat.zero_add, h.cellAt i (by omega)]
  simp [rowZ, hi]
end Go.Proofs.Qxb6619209a
